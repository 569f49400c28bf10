import JvmDerived
import JvmDerived.Pilot.@@N@@Statement
import JvmDerived.Pilot.@@N@@Code
set_option linter.unusedVariables false
set_option linter.unusedSimpArgs false
/- laws to paste: Road.backV, Road.lenW, Road.eqW, Road.codOf (cut by pick.py; bodies as the Statement names them) -/
namespace Jvm.Pilot.@@N@@
namespace StrChars
open Jvm Sem ClassFile Op Lib Jvm.Stand Jvm.Free.XT Jvm.Free.ALB Jvm.Free.JM Jvm.Free
open Jvm.Lib.Cold (StaticIs)
/-- a char array whose places are chars -/
def Ch (a : Addr) (A : Cell) (U : State) : Prop := Arr .char a A U ∧ Typed .char A
theorem Ch.mv {a : Addr} {A : Cell} {U U' : State} (h : Ch a A U) (hal : U.vm.Alike U'.vm) (hh : U'.heap = U.heap) : Ch a A U' := ⟨h.1.mv hal hh, h.2⟩
theorem Ch.keep {a : Addr} {A : Cell} {U U' : State} (h : Ch a A U) (hal : U.vm.Alike U'.vm) (hk : U'.heap[a]? = some A) : Ch a A U' := ⟨h.1.keep hal hk, h.2⟩
/-- what place i of a char[]'s cell holds -/
def cv (A : Cell) (i : Nat) : Int32 := match A.slots[i]? with | some (.int x) => x | _ => 0
theorem Ch.get {a : Addr} {A : Cell} {U : State} (h : Ch a A U) {i : Nat} (hi : i < A.slots.size) : A.slots[i]? = some (.int (cv A i)) := by
  have e := Array.getElem?_eq_getElem hi
  have f := h.2 i _ e
  unfold cv; rw [e]
  generalize A.slots[i] = v at f
  cases v <;> simp [fits] at f ⊢
/-- the byte that i2b leaves of a char -/
def lo8 (x : Int32) : Int32 := x.toInt8.toInt32
theorem fits_lo8 (y : Int32) : fits .byte (.int (lo8 y)) = true := by
  have h1 := y.toInt8.le_toInt
  have h2 := y.toInt8.toInt_lt
  simp only [lo8, fits, Bool.and_eq_true, decide_eq_true_eq, Int32.le_iff_toInt_le, Int8.toInt_toInt32, show (-128 : Int32).toInt = -128 from by decide, show (127 : Int32).toInt = 127 from by decide]
  omega
/-- A' is A but that each place j of lo .. hi - 1 holds f j -/
def Laid (A A' : Cell) (lo hi : Nat) (f : Nat → Value) : Prop := A'.cls = A.cls ∧ A'.vm = A.vm ∧ A'.slots.size = A.slots.size ∧ ∀ i, A'.slots[i]? = if lo ≤ i ∧ i < hi then some (f i) else A.slots[i]?
theorem Laid.zero (A : Cell) (lo : Nat) (f : Nat → Value) : Laid A A lo (lo + 0) f := ⟨rfl, rfl, rfl, fun i => by rw [if_neg (by omega)]⟩
theorem Laid.step {A Ak : Cell} {lo k : Nat} {f : Nat → Value} {v : Value} (h : Laid A Ak lo k f) (hlo : lo ≤ k) (hk : k < Ak.slots.size) (hv : v = f k) : Laid A (Ak.setSlot k v) lo (k + 1) f := by
  refine ⟨h.1, h.2.1, by simpa [Cell.setSlot] using h.2.2.1, fun i => ?_⟩
  by_cases e : k = i
  · subst e; rw [Cell.slots_setSlot_self v hk, if_pos (by omega), hv]
  · rw [Cell.slots_setSlot_ne v e, h.2.2.2 i]
    by_cases q : lo ≤ i ∧ i < k
    · rw [if_pos q, if_pos (by omega)]
    · rw [if_neg q, if_neg (by omega)]
def U16 : String := "java/lang/StringUTF16"
namespace Cmp5
def yN : MethodName := ⟨"java/lang/StringUTF16", "compress", "([CI[BII)I"⟩
abbrev yB : ByteArray := jdk_52_method_21_code
theorem d0 : decode yB 0 = .ok (.iconst 0, 1) := by decide +kernel
theorem d1 : decode yB 1 = .ok (.istore 5, 2) := by decide +kernel
theorem d3 : decode yB 3 = .ok (.iload 5, 2) := by decide +kernel
theorem d5 : decode yB 5 = .ok (.iload 4, 2) := by decide +kernel
theorem d7 : decode yB 7 = .ok (.if_icmp (.ge) 37, 3) := by decide +kernel
theorem d10 : decode yB 10 = .ok (.aload_n 0, 1) := by decide +kernel
theorem d11 : decode yB 11 = .ok (.iload_n 1, 1) := by decide +kernel
theorem d12 : decode yB 12 = .ok (.caload, 1) := by decide +kernel
theorem d13 : decode yB 13 = .ok (.istore 6, 2) := by decide +kernel
theorem d15 : decode yB 15 = .ok (.iload 6, 2) := by decide +kernel
theorem d17 : decode yB 17 = .ok (.sipush 255, 3) := by decide +kernel
theorem d20 : decode yB 20 = .ok (.if_icmp (.le) 6, 3) := by decide +kernel
theorem d26 : decode yB 26 = .ok (.aload_n 2, 1) := by decide +kernel
theorem d27 : decode yB 27 = .ok (.iload_n 3, 1) := by decide +kernel
theorem d28 : decode yB 28 = .ok (.iload 6, 2) := by decide +kernel
theorem d30 : decode yB 30 = .ok (.i2b, 1) := by decide +kernel
theorem d31 : decode yB 31 = .ok (.bastore, 1) := by decide +kernel
theorem d32 : decode yB 32 = .ok (.iinc 1 1, 3) := by decide +kernel
theorem d35 : decode yB 35 = .ok (.iinc 3 1, 3) := by decide +kernel
theorem d38 : decode yB 38 = .ok (.iinc 5 1, 3) := by decide +kernel
theorem d41 : decode yB 41 = .ok (.goto (-38), 3) := by decide +kernel
theorem d44 : decode yB 44 = .ok (.iload 4, 2) := by decide +kernel
theorem d46 : decode yB 46 = .ok (.ireturn, 1) := by decide +kernel
def site : List Cond := []
def tab : Cond := tabOf yN yB 7 (some .int) site
def P (b : Addr) (A : Cell) (d : Addr) (B : Cell) (o q len : Nat) (args : Array Value) (s : State) : Prop := args = #[.ref b, .int (Int32.ofNat o), .ref d, .int (Int32.ofNat q), .int (Int32.ofNat len)] ∧ Ch b A s ∧ Arr .byte d B s ∧ b ≠ d ∧ o + len ≤ A.slots.size ∧ q + len ≤ B.slots.size ∧ ∀ i, i < len → ¬ 255 < cv A (o + i)
def E (b : Addr) (A : Cell) (d : Addr) (B : Cell) (o q len : Nat) (r : Option Value) (s u : State) : Prop := r = some (.int (Int32.ofNat len)) ∧ ∃ B', Put d B' s u ∧ Laid B B' q (q + len) (fun j => Value.int (lo8 (cv A (o + (j - q)))))
/-- no char of the range above 255: len; the places written hold each char's low byte -/
theorem law (l : Launch) (b : Addr) (A : Cell) (d : Addr) (B : Cell) (o q len : Nat) : Law l yN 5 5 0 0 yB 7 (some .int) site (P b A d B o q len) (E b A d B o q len) (copyLocs d q len) 0 0 := by
  refine Law.of_walk (plainFor_of_name (by decide +kernel)) (by decide +kernel) (by decide +kernel) (by decide) (fun _ _ h => by rw [h.1]; rfl) (fun _ U U' hal hh h => ⟨h.1, h.2.1.mv hal hh, h.2.2.1.mv hal hh, h.2.2.2⟩) (fun r U U' V V' h1 hal h2 h => ⟨h.1, h.2.elim fun B' q => ⟨B', q.1.mv h1 h2, q.2⟩⟩) ?_
  intro p e s m args below meth c s₁ X0 hexec hbytes hml hret hlk hnm hown hh0 W hP
  obtain ⟨rfl, hA, hB, hne, l1, l2, hp⟩ := hP
  have c1 : Steps p.tables e below (s₁.setTop (entryFrame m #[.ref b, .int (Int32.ofNat o), .ref d, .int (Int32.ofNat q), .int (Int32.ofNat len)] 7)) (s₁.setTop (mkF m 0 #[.val (.ref b), .val (.int (Int32.ofNat o)), .val (.ref d), .val (.int (Int32.ofNat q)), .val (.int (Int32.ofNat len)), .unset, .unset] [])) := entry rfl
  have hA0 := hA.1.mv X0.warmed.alike hh0
  have hB0 := hB.mv X0.warmed.alike hh0
  have a31 := hA.1.2.2.2
  have c2 : Steps p.tables e below (s₁.setTop (entryFrame m #[.ref b, .int (Int32.ofNat o), .ref d, .int (Int32.ofNat q), .int (Int32.ofNat len)] 7)) (s₁.setTop (mkF m 3 #[.val (.ref b), .val (.int (Int32.ofNat o)), .val (.ref d), .val (.int (Int32.ofNat q)), .val (.int (Int32.ofNat len)), .val (.int 0), .unset] [])) := c1.trans (by
    refine iconstV X0.here hexec rfl 0 (hb hbytes d0) (by decide) ?_
    refine XS.istore X0.here hexec rfl (hb hbytes d1) rfl rfl ?_
    exact Steps.refl _)
  have loop : ∀ (r i : Nat), i + r = len → ∀ (z : Slot), (z = .unset ∨ ∃ w, z = .val w ∧ w.category = 1) → ∀ (Tl : State) (Bk : Cell), Stand p l e { frames := 0, locals := 0, cells := 0, slots := 0 } s m #[.ref b, .int (Int32.ofNat o), .ref d, .int (Int32.ofNat q), .int (Int32.ofNat len)] below meth c Tl ([] ++ copyLocs d q i) 0 0 → Put d Bk s₁ Tl → Laid B Bk q (q + i) (fun j => Value.int (lo8 (cv A (o + (j - q))))) →
      Steps p.tables e below (s₁.setTop (entryFrame m #[.ref b, .int (Int32.ofNat o), .ref d, .int (Int32.ofNat q), .int (Int32.ofNat len)] 7)) (Tl.setTop (mkF m 3 #[.val (.ref b), .val (.int (Int32.ofNat (o + i))), .val (.ref d), .val (.int (Int32.ofNat (q + i))), .val (.int (Int32.ofNat len)), .val (.int (Int32.ofNat i)), z] [])) → ∃ (T' : State) (B' : Cell) (z' : Slot), Stand p l e { frames := 0, locals := 0, cells := 0, slots := 0 } s m #[.ref b, .int (Int32.ofNat o), .ref d, .int (Int32.ofNat q), .int (Int32.ofNat len)] below meth c T' ([] ++ copyLocs d q len) 0 0 ∧ Put d B' s₁ T' ∧ Laid B B' q (q + len) (fun j => Value.int (lo8 (cv A (o + (j - q))))) ∧
      Steps p.tables e below (s₁.setTop (entryFrame m #[.ref b, .int (Int32.ofNat o), .ref d, .int (Int32.ofNat q), .int (Int32.ofNat len)] 7)) (T'.setTop (mkF m 3 #[.val (.ref b), .val (.int (Int32.ofNat (o + len))), .val (.ref d), .val (.int (Int32.ofNat (q + len))), .val (.int (Int32.ofNat len)), .val (.int (Int32.ofNat len)), z'] [])) := by
    intro r
    induction r with
    | zero =>
      intro i hi z hz Tl Bk Xl pl fl cl
      have hil : i = len := by omega
      rw [hil] at Xl fl cl
      exact ⟨Tl, Bk, z, Xl, pl, fl, cl⟩
    | succ r ih =>
      intro i hi z hz Tl Bk Xl pl fl cl
      have all := X0.warmed.alike.symm.trans Xl.warmed.alike
      have hAl := hA0.keep all (pl.other hne hA0.1)
      have hBk := hB0.like all pl.1 fl.1 fl.2.1 fl.2.2.1
      have hlt : q + i < Bk.slots.size := by rw [fl.2.2.1]; omega
      have c3 : Steps p.tables e below (s₁.setTop (entryFrame m #[.ref b, .int (Int32.ofNat o), .ref d, .int (Int32.ofNat q), .int (Int32.ofNat len)] 7)) (Tl.setTop (mkF m 12 #[.val (.ref b), .val (.int (Int32.ofNat (o + i))), .val (.ref d), .val (.int (Int32.ofNat (q + i))), .val (.int (Int32.ofNat len)), .val (.int (Int32.ofNat i)), z] [.int (Int32.ofNat (o + i)), .ref b])) := cl.trans (by
        refine XS.iload Xl.here hexec rfl (hb hbytes d3) rfl ?_
        refine XS.iload Xl.here hexec rfl (hb hbytes d5) rfl ?_
        refine XS.icmpNo Xl.here hexec rfl (hb hbytes d7) rfl (ii_ge_f (lt32 (by omega) (by omega))) ?_
        refine XS.aloadN Xl.here hexec rfl (hb hbytes d10) rfl rfl ?_
        refine XS.iloadN Xl.here hexec rfl (hb hbytes d11) rfl ?_
        exact Steps.refl _)
      have c4 : Steps p.tables e below (s₁.setTop (entryFrame m #[.ref b, .int (Int32.ofNat o), .ref d, .int (Int32.ofNat q), .int (Int32.ofNat len)] 7)) (Tl.setTop (mkF m 13 #[.val (.ref b), .val (.int (Int32.ofNat (o + i))), .val (.ref d), .val (.int (Int32.ofNat (q + i))), .val (.int (Int32.ofNat len)), .val (.int (Int32.ofNat i)), z] [.int (cv A (o + i))])) := c3.trans (by
        refine Xl.aget hexec hAl rfl (hA.get (i := o + i) (by omega)) rfl rfl (hb hbytes d12) ?_
        exact Steps.refl _)
      have c5 : Steps p.tables e below (s₁.setTop (entryFrame m #[.ref b, .int (Int32.ofNat o), .ref d, .int (Int32.ofNat q), .int (Int32.ofNat len)] 7)) (Tl.setTop (mkF m 15 #[.val (.ref b), .val (.int (Int32.ofNat (o + i))), .val (.ref d), .val (.int (Int32.ofNat (q + i))), .val (.int (Int32.ofNat len)), .val (.int (Int32.ofNat i)), .val (.int (cv A (o + i)))] [])) := c4.trans (by
        refine XS.istoreS Xl.here hexec rfl (hb hbytes d13) rfl rfl hz ?_
        exact Steps.refl _)
      have c6 : Steps p.tables e below (s₁.setTop (entryFrame m #[.ref b, .int (Int32.ofNat o), .ref d, .int (Int32.ofNat q), .int (Int32.ofNat len)] 7)) (Tl.setTop (mkF m 31 #[.val (.ref b), .val (.int (Int32.ofNat (o + i))), .val (.ref d), .val (.int (Int32.ofNat (q + i))), .val (.int (Int32.ofNat len)), .val (.int (Int32.ofNat i)), .val (.int (cv A (o + i)))] [.int (lo8 (cv A (o + i))), .int (Int32.ofNat (q + i)), .ref d])) := c5.trans (by
        refine XS.iload Xl.here hexec rfl (hb hbytes d15) rfl ?_
        refine sipushV Xl.here hexec rfl 255 (hb hbytes d17) (by decide) ?_
        refine XS.icmpYes Xl.here hexec rfl (pc0 := 20) rfl (hb hbytes d20) rfl (ii_le_t (hp i (by omega))) (by decide) rfl ?_
        refine XS.aloadN Xl.here hexec rfl (hb hbytes d26) rfl rfl ?_
        refine XS.iloadN Xl.here hexec rfl (hb hbytes d27) rfl ?_
        refine XS.iload Xl.here hexec rfl (hb hbytes d28) rfl ?_
        refine i2b Xl.here hexec rfl (hb hbytes d30) rfl ?_
        exact Steps.refl _)
      obtain ⟨T7, X7, p7, st7⟩ := Xl.aput hexec hBk rfl hlt rfl (fits_lo8 (cv A (o + i))) (g := (mkF m 31 #[.val (.ref b), .val (.int (Int32.ofNat (o + i))), .val (.ref d), .val (.int (Int32.ofNat (q + i))), .val (.int (Int32.ofNat len)), .val (.int (Int32.ofNat i)), .val (.int (cv A (o + i)))] [.int (lo8 (cv A (o + i))), .int (Int32.ofNat (q + i)), .ref d])) rfl (rest := []) rfl (hb hbytes d31)
      have c8 : Steps p.tables e below (s₁.setTop (entryFrame m #[.ref b, .int (Int32.ofNat o), .ref d, .int (Int32.ofNat q), .int (Int32.ofNat len)] 7)) (T7.setTop (mkF m 32 #[.val (.ref b), .val (.int (Int32.ofNat (o + i))), .val (.ref d), .val (.int (Int32.ofNat (q + i))), .val (.int (Int32.ofNat len)), .val (.int (Int32.ofNat i)), .val (.int (cv A (o + i)))] [])) := c6.trans (st7 _ (Steps.refl _))
      have c9 : Steps p.tables e below (s₁.setTop (entryFrame m #[.ref b, .int (Int32.ofNat o), .ref d, .int (Int32.ofNat q), .int (Int32.ofNat len)] 7)) (T7.setTop (mkF m 3 #[.val (.ref b), .val (.int (Int32.ofNat (o + i) + 1)), .val (.ref d), .val (.int (Int32.ofNat (q + i) + 1)), .val (.int (Int32.ofNat len)), .val (.int (Int32.ofNat i + 1)), .val (.int (cv A (o + i)))] [])) := c8.trans (by
        refine iincV X7.here hexec rfl 1 (hb hbytes d32) (by decide) rfl rfl ?_
        refine iincV X7.here hexec rfl 1 (hb hbytes d35) (by decide) rfl rfl ?_
        refine iincV X7.here hexec rfl 1 (hb hbytes d38) (by decide) rfl rfl ?_
        refine XS.goto X7.here hexec rfl (pc0 := 41) rfl (hb hbytes d41) (by decide) rfl ?_
        exact Steps.refl _)
      have c10 : Steps p.tables e below (s₁.setTop (entryFrame m #[.ref b, .int (Int32.ofNat o), .ref d, .int (Int32.ofNat q), .int (Int32.ofNat len)] 7)) (T7.setTop (mkF m 3 #[.val (.ref b), .val (.int (Int32.ofNat (o + (i + 1)))), .val (.ref d), .val (.int (Int32.ofNat (q + (i + 1)))), .val (.int (Int32.ofNat len)), .val (.int (Int32.ofNat (i + 1))), .val (.int (cv A (o + i)))] [])) := by
        have := c9
        rw [succ32, succ32, succ32] at this
        exact this
      exact ih (i + 1) (by omega) _ (Or.inr ⟨_, rfl, rfl⟩) T7 _ (by rw [copyLocs_step, ← List.append_assoc]; exact X7) (pl.trans p7) (fl.step (by omega) hlt (by simp)) c10
  obtain ⟨T9, B9, z9, X9, p9, f9, g9⟩ := loop len 0 (by omega) .unset (Or.inl rfl) s₁ B (by simpa [copyLocs] using X0) ⟨hB0.1, fun _ _ => rfl, rfl⟩ (Laid.zero _ _ _) c2
  have c11 : Steps p.tables e below (s₁.setTop (entryFrame m #[.ref b, .int (Int32.ofNat o), .ref d, .int (Int32.ofNat q), .int (Int32.ofNat len)] 7)) (T9.setTop (mkF m 46 #[.val (.ref b), .val (.int (Int32.ofNat (o + len))), .val (.ref d), .val (.int (Int32.ofNat (q + len))), .val (.int (Int32.ofNat len)), .val (.int (Int32.ofNat len)), z9] [.int (Int32.ofNat len)])) := g9.trans (by
    refine XS.iload X9.here hexec rfl (hb hbytes d3) rfl ?_
    refine XS.iload X9.here hexec rfl (hb hbytes d5) rfl ?_
    refine XS.icmpYes X9.here hexec rfl (pc0 := 7) rfl (hb hbytes d7) rfl (ii_ge_t (nlt32 (by omega) (Nat.le_refl _))) (by decide) rfl ?_
    refine XS.iload X9.here hexec rfl (hb hbytes d44) rfl ?_
    exact Steps.refl _)
  exact ⟨T9, some (.int (Int32.ofNat len)), _, _, _, X9, by simp, rfl, rfl, (fun h => by cases h), ⟨rfl, B9, p9.from hh0, f9⟩, fun fs hl => c11.trans (X9.ireturnOut hexec hret rfl (Or.inl rfl) (hb hbytes d46) hl)⟩
end Cmp5
namespace Cmp3
def yN : MethodName := ⟨"java/lang/StringUTF16", "compress", "([CII)[B"⟩
abbrev yB : ByteArray := jdk_52_method_16_code
theorem d0 : decode yB 0 = .ok (.iload_n 2, 1) := by decide +kernel
theorem d1 : decode yB 1 = .ok (.newarray .byte, 2) := by decide +kernel
theorem d3 : decode yB 3 = .ok (.astore_n 3, 1) := by decide +kernel
theorem d4 : decode yB 4 = .ok (.aload_n 0, 1) := by decide +kernel
theorem d5 : decode yB 5 = .ok (.iload_n 1, 1) := by decide +kernel
theorem d6 : decode yB 6 = .ok (.aload_n 3, 1) := by decide +kernel
theorem d7 : decode yB 7 = .ok (.iconst 0, 1) := by decide +kernel
theorem d8 : decode yB 8 = .ok (.iload_n 2, 1) := by decide +kernel
theorem d9 : decode yB 9 = .ok (.invokestatic 115, 3) := by decide +kernel
theorem d12 : decode yB 12 = .ok (.istore 4, 2) := by decide +kernel
theorem d14 : decode yB 14 = .ok (.iload 4, 2) := by decide +kernel
theorem d16 : decode yB 16 = .ok (.iload_n 2, 1) := by decide +kernel
theorem d17 : decode yB 17 = .ok (.if_icmp (.eq) 40, 3) := by decide +kernel
theorem d57 : decode yB 57 = .ok (.aload_n 3, 1) := by decide +kernel
theorem d58 : decode yB 58 = .ok (.areturn, 1) := by decide +kernel
def site : List Cond := [.arrayClass .byte, Cmp5.tab] ++ staticW U16 115 Cmp5.yN
def tab : Cond := tabOf yN yB 6 (some (.array .byte)) site
def P (b : Addr) (A : Cell) (o len : Nat) (args : Array Value) (s : State) : Prop := args = #[.ref b, .int (Int32.ofNat o), .int (Int32.ofNat len)] ∧ Ch b A s ∧ o + len ≤ A.slots.size ∧ len ≤ 536870912 ∧ ∀ i, i < len → ¬ 255 < cv A (o + i)
def E (b : Addr) (A : Cell) (o len : Nat) (r : Option Value) (s u : State) : Prop := NewArr .byte "[B" len (fun j => .int (lo8 (cv A (o + j)))) r s u ∧ u.heap.size = s.heap.size + 1
/-- no char of the range above 255: a new byte[] of their low bytes -/
theorem law (l : Launch) (b : Addr) (A : Cell) (o len : Nat) : Law l yN 3 3 1 18 yB 6 (some (.array .byte)) site (P b A o len) (E b A o len) [] 1 len := by
  refine Law.of_walk (plainFor_of_name (by decide +kernel)) (by decide +kernel) (by decide +kernel) (by decide) (fun _ _ h => by rw [h.1]; rfl) (fun _ U U' hal hh h => ⟨h.1, h.2.1.mv hal hh, h.2.2⟩) (fun r U U' V V' h1 hal h2 h => ⟨NewArr.mv r U U' V V' h1 hal h2 h.1, by rw [h1, h2]; exact h.2⟩) ?_
  intro p e s m args below meth c s₁ X0 hexec hbytes hml hret hlk hnm hown hh0 W hP
  obtain ⟨rfl, hA, l1, l2, hp⟩ := hP
  have a31 := hA.1.2.2.2
  have c1 : Steps p.tables e below (s₁.setTop (entryFrame m #[.ref b, .int (Int32.ofNat o), .int (Int32.ofNat len)] 6)) (s₁.setTop (mkF m 0 #[.val (.ref b), .val (.int (Int32.ofNat o)), .val (.int (Int32.ofNat len)), .unset, .unset, .unset] [])) := entry rfl
  have c2 : Steps p.tables e below (s₁.setTop (entryFrame m #[.ref b, .int (Int32.ofNat o), .int (Int32.ofNat len)] 6)) (s₁.setTop (mkF m 1 #[.val (.ref b), .val (.int (Int32.ofNat o)), .val (.int (Int32.ofNat len)), .unset, .unset, .unset] [.int (Int32.ofNat len)])) := c1.trans (by
    refine XS.iloadN X0.here hexec rfl (hb hbytes d0) rfl ?_
    exact Steps.refl _)
  obtain ⟨T3, B3, X3, ba3, bs3, bv3, bh3, bf3, st3⟩ := X0.anew hexec (atype := .byte) (wk W (.arrayClass .byte)) rfl (by show len * 1 ≤ _; omega) (by omega) (g := (mkF m 1 #[.val (.ref b), .val (.int (Int32.ofNat o)), .val (.int (Int32.ofNat len)), .unset, .unset, .unset] [.int (Int32.ofNat len)])) rfl (hb hbytes d1) (rest := []) rfl (Nat.le_refl _) (by show 0 + len ≤ len; omega)
  rw [hh0] at ba3 st3
  have kp3 : XT.Kept s T3 := (XT.Kept.of_eq hh0).push bh3
  have hA3 := hA.keep X3.warmed.alike (kp3 _ _ hA.1.1)
  have hne : b ≠ s.heap.size := hA.1.ne
  have c4 : Steps p.tables e below (s₁.setTop (entryFrame m #[.ref b, .int (Int32.ofNat o), .int (Int32.ofNat len)] 6)) (T3.setTop (mkF m 3 #[.val (.ref b), .val (.int (Int32.ofNat o)), .val (.int (Int32.ofNat len)), .unset, .unset, .unset] [.ref s.heap.size])) := c2.trans (st3 _ (Steps.refl _))
  have c5 : Steps p.tables e below (s₁.setTop (entryFrame m #[.ref b, .int (Int32.ofNat o), .int (Int32.ofNat len)] 6)) (T3.setTop (mkF m 9 #[.val (.ref b), .val (.int (Int32.ofNat o)), .val (.int (Int32.ofNat len)), .val (.ref s.heap.size), .unset, .unset] [.int (Int32.ofNat len), .int 0, .ref s.heap.size, .int (Int32.ofNat o), .ref b])) := c4.trans (by
    refine XS.astoreN X3.here hexec rfl (hb hbytes d3) rfl rfl rfl ?_
    refine XS.aloadN X3.here hexec rfl (hb hbytes d4) rfl rfl ?_
    refine XS.iloadN X3.here hexec rfl (hb hbytes d5) rfl ?_
    refine XS.aloadN X3.here hexec rfl (hb hbytes d6) rfl rfl ?_
    refine iconstV X3.here hexec rfl 0 (hb hbytes d7) (by decide) ?_
    refine XS.iloadN X3.here hexec rfl (hb hbytes d8) rfl ?_
    exact Steps.refl _)
  obtain ⟨v6, T6, X6, E6, g6⟩ := X3.callS hexec (Cmp5.law l b A s.heap.size B3 o 0 len) hown (wks W (staticW U16 115 Cmp5.yN)) (wk W Cmp5.tab) (W := 0) (Nat.le_of_ble_eq_true rfl) (Nat.le_of_ble_eq_true rfl) (Nat.le_refl _) (by show 0 + len + 0 ≤ len; omega) (g := (mkF m 9 #[.val (.ref b), .val (.int (Int32.ofNat o)), .val (.int (Int32.ofNat len)), .val (.ref s.heap.size), .unset, .unset] [.int (Int32.ofNat len), .int (Int32.ofNat 0), .ref s.heap.size, .int (Int32.ofNat o), .ref b])) rfl (by rw [hml]; rfl) c5 (argsL := [.ref b, .int (Int32.ofNat o), .ref s.heap.size, .int (Int32.ofNat 0), .int (Int32.ofNat len)]) (rest := []) rfl rfl (by show 2 * 0 + 0 ≤ _; decide) (hb hbytes d9) (⟨rfl, hA3, ba3, hne, l1, by rw [bs3]; simp, hp⟩)
  obtain ⟨rfl, B6, p6, f6⟩ := E6
  have c7 : Steps p.tables e below (s₁.setTop (entryFrame m #[.ref b, .int (Int32.ofNat o), .int (Int32.ofNat len)] 6)) (T6.setTop (mkF m 12 #[.val (.ref b), .val (.int (Int32.ofNat o)), .val (.int (Int32.ofNat len)), .val (.ref s.heap.size), .unset, .unset] [.int (Int32.ofNat len)])) := g6
  have c8 : Steps p.tables e below (s₁.setTop (entryFrame m #[.ref b, .int (Int32.ofNat o), .int (Int32.ofNat len)] 6)) (T6.setTop (mkF m 58 #[.val (.ref b), .val (.int (Int32.ofNat o)), .val (.int (Int32.ofNat len)), .val (.ref s.heap.size), .val (.int (Int32.ofNat len)), .unset] [.ref s.heap.size])) := c7.trans (by
    refine XS.istore X6.here hexec rfl (hb hbytes d12) rfl rfl ?_
    refine XS.iload X6.here hexec rfl (hb hbytes d14) rfl ?_
    refine XS.iloadN X6.here hexec rfl (hb hbytes d16) rfl ?_
    refine XS.icmpYes X6.here hexec rfl (pc0 := 17) rfl (hb hbytes d17) rfl (ii_eq_t rfl) (by decide) rfl ?_
    refine XS.aloadN X6.here hexec rfl (hb hbytes d57) rfl rfl ?_
    exact Steps.refl _)
  have X8 := X6.wide (L' := []) (cells' := 1) (slots' := len) (fun x hx hlt => by
    simp only [List.nil_append, copyLocs, List.mem_map, List.mem_range] at hx
    obtain ⟨i, -, rfl⟩ := hx
    exact absurd hlt (Nat.lt_irrefl _)) (Nat.le_refl _) (by omega)
  exact ⟨T6, some (.ref s.heap.size), _, _, _, X8, rfl, rfl, rfl, (fun h => by cases h), ⟨⟨rfl, B6, ba3.like (X3.warmed.alike.symm.trans X6.warmed.alike) p6.1 f6.1 f6.2.1 f6.2.2.1, f6.2.1.trans bv3, by rw [X6.warmed.alike.findClass, f6.1]; exact bf3, by rw [f6.2.2.1, bs3]; simp, fun j hj => by rw [f6.2.2.2 j, if_pos (by omega)]; rfl, kp3.put p6 (Nat.le_refl _)⟩, by rw [p6.2.2, bh3, hh0]; simp⟩, fun fs hl => c8.trans (X8.areturnOut hexec rfl hret rfl (hb hbytes d58) hl)⟩
end Cmp3
namespace CodL
def yN : MethodName := ⟨"java/lang/StringUTF16", "coderFromArrayLen", "([BI)B"⟩
abbrev yB : ByteArray := jdk_52_method_15_code
theorem d0 : decode yB 0 = .ok (.iload_n 1, 1) := by decide +kernel
theorem d1 : decode yB 1 = .ok (.aload_n 0, 1) := by decide +kernel
theorem d2 : decode yB 2 = .ok (.arraylength, 1) := by decide +kernel
theorem d3 : decode yB 3 = .ok (.isub, 1) := by decide +kernel
theorem d4 : decode yB 4 = .ok (.bipush 31, 2) := by decide +kernel
theorem d6 : decode yB 6 = .ok (.iushr, 1) := by decide +kernel
theorem d7 : decode yB 7 = .ok (.i2b, 1) := by decide +kernel
theorem d8 : decode yB 8 = .ok (.ireturn, 1) := by decide +kernel
def site : List Cond := []
def tab : Cond := tabOf yN yB 2 (some .byte) site
def P (d : Addr) (B : Cell) (args : Array Value) (s : State) : Prop := args = #[.ref d, .int (Int32.ofNat B.slots.size)] ∧ Arr .byte d B s
def E (r : Option Value) (s u : State) : Prop := XT.PureE (some (.int 0)) r s u
/-- an array as long as the number of chars: LATIN1 -/
theorem law (l : Launch) (d : Addr) (B : Cell) : Law l yN 2 2 0 0 yB 2 (some .byte) site (P d B) E [] 0 0 := by
  refine Law.of_walk (plainFor_of_name (by decide +kernel)) (by decide +kernel) (by decide +kernel) (by decide) (fun _ _ h => by rw [h.1]; rfl) (fun _ U U' hal hh h => ⟨h.1, h.2.mv hal hh⟩) (fun r U U' V V' h1 hal h2 h => XT.PureE.mv r U U' V V' h1 hal h2 h) ?_
  intro p e s m args below meth c s₁ X0 hexec hbytes hml hret hlk hnm hown hh0 W hP
  obtain ⟨rfl, hB⟩ := hP
  have hB0 := hB.mv X0.warmed.alike hh0
  have c1 : Steps p.tables e below (s₁.setTop (entryFrame m #[.ref d, .int (Int32.ofNat B.slots.size)] 2)) (s₁.setTop (mkF m 0 #[.val (.ref d), .val (.int (Int32.ofNat B.slots.size))] [])) := entry rfl
  have c2 : Steps p.tables e below (s₁.setTop (entryFrame m #[.ref d, .int (Int32.ofNat B.slots.size)] 2)) (s₁.setTop (mkF m 2 #[.val (.ref d), .val (.int (Int32.ofNat B.slots.size))] [.ref d, .int (Int32.ofNat B.slots.size)])) := c1.trans (by
    refine XS.iloadN X0.here hexec rfl (hb hbytes d0) rfl ?_
    refine XS.aloadN X0.here hexec rfl (hb hbytes d1) rfl rfl ?_
    exact Steps.refl _)
  have c3 : Steps p.tables e below (s₁.setTop (entryFrame m #[.ref d, .int (Int32.ofNat B.slots.size)] 2)) (s₁.setTop (mkF m 8 #[.val (.ref d), .val (.int (Int32.ofNat B.slots.size))] [.int (lo8 (ushr (Int32.ofNat B.slots.size - Int32.ofNat B.slots.size) 31))])) := c2.trans (by
    refine X0.alen hexec hB0 rfl rfl (hb hbytes d2) ?_
    refine XS.isub X0.here hexec rfl (hb hbytes d3) rfl ?_
    refine bipushV X0.here hexec rfl 31 (hb hbytes d4) (by decide) ?_
    refine iushr X0.here hexec rfl (hb hbytes d6) rfl ?_
    refine i2b X0.here hexec rfl (hb hbytes d7) rfl ?_
    exact Steps.refl _)
  have e0 : lo8 (ushr (Int32.ofNat B.slots.size - Int32.ofNat B.slots.size) 31) = 0 := by rw [Int32.sub_self]; decide
  rw [e0] at c3
  exact ⟨s₁, some (.int 0), _, _, _, X0, rfl, rfl, rfl, (fun h => by cases h), ⟨rfl, hh0⟩, fun fs hl => c3.trans (X0.ireturnOut hexec hret rfl (Or.inr (Or.inr (Or.inl rfl))) (hb hbytes d8) hl)⟩
end CodL
/-- the String at a is Latin-1 over a new byte[] (the heap's one new cell): the low bytes of the len chars of A from o on; every cell but a is kept -/
def Got (a : Addr) (D : Cell) (fV fC : Field) (A : Cell) (o len : Nat) (r : Option Value) (s u : State) : Prop := r = none ∧ ∃ D' V : Cell, Blank "java/lang/String" a D' u ∧ Same D D' [fV.slot, fC.slot] ∧ D'.slots[fV.slot]? = some (.ref s.heap.size) ∧ D'.slots[fC.slot]? = some (.int 0) ∧ Arr .byte s.heap.size V u ∧ V.vm = .none ∧ u.vm.findClass "[B" = some V.cls ∧ V.slots.size = len ∧ (∀ j, j < len → V.slots[j]? = some (.int (lo8 (cv A (o + j))))) ∧ (∀ (y : Addr) (c : Cell), y ≠ a → s.heap[y]? = some c → u.heap[y]? = some c) ∧ u.heap.size = s.heap.size + 1
theorem Got.mv {a : Addr} {D A : Cell} {fV fC : Field} {o len : Nat} : ∀ r (U U' V V' : State), U'.heap = U.heap → V.vm.Alike V'.vm → V'.heap = V.heap → Got a D fV fC A o len r U V → Got a D fV fC A o len r U' V' :=
  fun r U U' V V' h1 hal h2 ⟨e0, D', X, a1, a2, a3, a4, a5, a6, a7, a8, a9, a10, a11⟩ => ⟨e0, D', X, a1.mv hal h2, a2, by rw [h1]; exact a3, a4, by rw [h1]; exact a5.mv hal h2, a6, by rw [hal.findClass]; exact a7, a8, a9, by rw [h1, h2]; exact a10, by rw [h1, h2]; exact a11⟩
namespace New4
def yN : MethodName := ⟨"java/lang/String", "<init>", "([CIILjava/lang/Void;)V"⟩
abbrev yB : ByteArray := jdk_42_method_149_code
theorem d0 : decode yB 0 = .ok (.aload_n 0, 1) := by decide +kernel
theorem d1 : decode yB 1 = .ok (.invokespecial 1, 3) := by decide +kernel
theorem d4 : decode yB 4 = .ok (.iload_n 3, 1) := by decide +kernel
theorem d5 : decode yB 5 = .ok (.ifCond (.ne) 22, 3) := by decide +kernel
theorem d27 : decode yB 27 = .ok (.getstatic 38, 3) := by decide +kernel
theorem d30 : decode yB 30 = .ok (.ifCond (.eq) 28, 3) := by decide +kernel
theorem d33 : decode yB 33 = .ok (.aload_n 1, 1) := by decide +kernel
theorem d34 : decode yB 34 = .ok (.iload_n 2, 1) := by decide +kernel
theorem d35 : decode yB 35 = .ok (.iload_n 3, 1) := by decide +kernel
theorem d36 : decode yB 36 = .ok (.invokestatic 177, 3) := by decide +kernel
theorem d39 : decode yB 39 = .ok (.astore 5, 2) := by decide +kernel
theorem d41 : decode yB 41 = .ok (.aload_n 0, 1) := by decide +kernel
theorem d42 : decode yB 42 = .ok (.aload 5, 2) := by decide +kernel
theorem d44 : decode yB 44 = .ok (.iload_n 3, 1) := by decide +kernel
theorem d45 : decode yB 45 = .ok (.invokestatic 47, 3) := by decide +kernel
theorem d48 : decode yB 48 = .ok (.putfield 15, 3) := by decide +kernel
theorem d51 : decode yB 51 = .ok (.aload_n 0, 1) := by decide +kernel
theorem d52 : decode yB 52 = .ok (.aload 5, 2) := by decide +kernel
theorem d54 : decode yB 54 = .ok (.putfield 9, 3) := by decide +kernel
theorem d57 : decode yB 57 = .ok (.return_, 1) := by decide +kernel
def site : List Cond := [.fieldLink "java/lang/String" 38 "java/lang/String" "COMPACT_STRINGS" "Z", Cmp3.tab, CodL.tab, .laysFinal "java/lang/String" "java/lang/String" "value" "[B", .fieldLink "java/lang/String" 9 "java/lang/String" "value" "[B", .laysFinal "java/lang/String" "java/lang/String" "coder" "B", .fieldLink "java/lang/String" 15 "java/lang/String" "coder" "B"] ++ objW "java/lang/String" 1 ++ staticW "java/lang/String" 177 Cmp3.yN ++ staticW "java/lang/String" 47 CodL.yN
def tab : Cond := tabOf yN yB 6 none site
def P (a : Addr) (D : Cell) (fV fC : Field) (b : Addr) (A : Cell) (z : Int32) (o len : Nat) (args : Array Value) (s : State) : Prop := args = #[.ref a, .ref b, .int (Int32.ofNat o), .int (Int32.ofNat len), .null] ∧ Blank "java/lang/String" a D s ∧ Found "java/lang/String" "value" "[B" fV s ∧ Found "java/lang/String" "coder" "B" fC s ∧ Ch b A s ∧ StaticIs s "java/lang/String" "COMPACT_STRINGS" "Z" (.int z) ∧ ¬ z = 0 ∧ 0 < len ∧ o + len ≤ A.slots.size ∧ len ≤ 536870912 ∧ ∀ i, i < len → ¬ 255 < cv A (o + i)
def E (a : Addr) (D : Cell) (fV fC : Field) (A : Cell) (o len : Nat) (r : Option Value) (s u : State) : Prop := Got a D fV fC A o len r s u
/-- len > 0, no char of the range above 255: a Latin-1 String of their low bytes -/
theorem law (l : Launch) (a : Addr) (D : Cell) (fV fC : Field) (b : Addr) (A : Cell) (z : Int32) (o len : Nat) : Law l yN 5 4 2 35 yB 6 none site (P a D fV fC b A z o len) (E a D fV fC A o len) [⟨a, fC.slot⟩, ⟨a, fV.slot⟩] 1 len := by
  refine Law.of_walk (plainFor_of_name (by decide +kernel)) (by decide +kernel) (by decide +kernel) (by decide) (fun _ _ h => by rw [h.1]; rfl) (fun _ U U' hal hh h => ⟨h.1, h.2.1.mv hal hh, h.2.2.1.al hal, h.2.2.2.1.al hal, h.2.2.2.2.1.mv hal hh, h.2.2.2.2.2.1.there hal hh, h.2.2.2.2.2.2⟩) (fun r U U' V V' h1 hal h2 h => Got.mv r U U' V V' h1 hal h2 h) ?_
  intro p e s m args below meth c s₁ X0 hexec hbytes hml hret hlk hnm hown hh0 W hP
  obtain ⟨rfl, hB, f1, f2, hA, s1, hz, l0, l1, l2, hp⟩ := hP
  have a31 := hA.1.2.2.2
  have c1 : Steps p.tables e below (s₁.setTop (entryFrame m #[.ref a, .ref b, .int (Int32.ofNat o), .int (Int32.ofNat len), .null] 6)) (s₁.setTop (mkF m 0 #[.val (.ref a), .val (.ref b), .val (.int (Int32.ofNat o)), .val (.int (Int32.ofNat len)), .val .null, .unset] [])) := entry rfl
  have c2 : Steps p.tables e below (s₁.setTop (entryFrame m #[.ref a, .ref b, .int (Int32.ofNat o), .int (Int32.ofNat len), .null] 6)) (s₁.setTop (mkF m 1 #[.val (.ref a), .val (.ref b), .val (.int (Int32.ofNat o)), .val (.int (Int32.ofNat len)), .val .null, .unset] [.ref a])) := c1.trans (by
    refine XS.aloadN X0.here hexec rfl (hb hbytes d0) rfl rfl ?_
    exact Steps.refl _)
  obtain ⟨T3, X3, q3, st3⟩ := X0.oinit hexec hown (wks W (objW "java/lang/String" 1)) (g := (mkF m 1 #[.val (.ref a), .val (.ref b), .val (.int (Int32.ofNat o)), .val (.int (Int32.ofNat len)), .val .null, .unset] [.ref a])) rfl (by rw [hml]; rfl) (rest := []) rfl (hb hbytes d1) (W := 0) (by show 2 * 0 + 0 ≤ _; decide) (Nat.le_of_ble_eq_true rfl) (Nat.le_of_ble_eq_true rfl)
  have hh3 := q3.trans hh0
  have c4 : Steps p.tables e below (s₁.setTop (entryFrame m #[.ref a, .ref b, .int (Int32.ofNat o), .int (Int32.ofNat len), .null] 6)) (T3.setTop (mkF m 27 #[.val (.ref a), .val (.ref b), .val (.int (Int32.ofNat o)), .val (.int (Int32.ofNat len)), .val .null, .unset] [])) := (c2.trans (st3 _ (Steps.refl _))).trans (by
    refine XS.iloadN X3.here hexec rfl (hb hbytes d4) rfl ?_
    refine XS.ifYes X3.here hexec rfl (pc0 := 5) rfl (hb hbytes d5) rfl (i0_ne_t (nz32 (by omega) l0)) (by decide) rfl ?_
    exact Steps.refl _)
  obtain ⟨T5, X5, q5, st5⟩ := X3.sget hexec hown (wk W (.fieldLink "java/lang/String" 38 "java/lang/String" "COMPACT_STRINGS" "Z")) s1 (fun _ _ h => by rw [hh3]; exact h) (g := (mkF m 27 #[.val (.ref a), .val (.ref b), .val (.int (Int32.ofNat o)), .val (.int (Int32.ofNat len)), .val .null, .unset] [])) rfl (hb hbytes d27)
  have hh5 := q5.trans hh3
  have c6 : Steps p.tables e below (s₁.setTop (entryFrame m #[.ref a, .ref b, .int (Int32.ofNat o), .int (Int32.ofNat len), .null] 6)) (T5.setTop (mkF m 30 #[.val (.ref a), .val (.ref b), .val (.int (Int32.ofNat o)), .val (.int (Int32.ofNat len)), .val .null, .unset] [.int z])) := c4.trans (st5 _ (Steps.refl _))
  have c7 : Steps p.tables e below (s₁.setTop (entryFrame m #[.ref a, .ref b, .int (Int32.ofNat o), .int (Int32.ofNat len), .null] 6)) (T5.setTop (mkF m 36 #[.val (.ref a), .val (.ref b), .val (.int (Int32.ofNat o)), .val (.int (Int32.ofNat len)), .val .null, .unset] [.int (Int32.ofNat len), .int (Int32.ofNat o), .ref b])) := c6.trans (by
    refine XS.ifNo X5.here hexec rfl (hb hbytes d30) rfl (i0_eq_f hz) ?_
    refine XS.aloadN X5.here hexec rfl (hb hbytes d33) rfl rfl ?_
    refine XS.iloadN X5.here hexec rfl (hb hbytes d34) rfl ?_
    refine XS.iloadN X5.here hexec rfl (hb hbytes d35) rfl ?_
    exact Steps.refl _)
  obtain ⟨v8, T8, X8, E8, g8⟩ := X5.callS hexec (Cmp3.law l b A o len) hown (wks W (staticW "java/lang/String" 177 Cmp3.yN)) (wk W Cmp3.tab) (W := 0) (Nat.le_of_ble_eq_true rfl) (Nat.le_of_ble_eq_true rfl) (Nat.le_refl _) (by show 0 + len ≤ len; omega) (g := (mkF m 36 #[.val (.ref a), .val (.ref b), .val (.int (Int32.ofNat o)), .val (.int (Int32.ofNat len)), .val .null, .unset] [.int (Int32.ofNat len), .int (Int32.ofNat o), .ref b])) rfl (by rw [hml]; rfl) c7 (argsL := [.ref b, .int (Int32.ofNat o), .int (Int32.ofNat len)]) (rest := []) rfl rfl (by show 2 * 0 + 0 ≤ _; decide) (hb hbytes d36) (⟨rfl, hA.mv X5.warmed.alike hh5, l1, l2, hp⟩)
  obtain ⟨e8, z8⟩ := E8
  obtain ⟨rfl, N, n1, n2, n3, n4, n5, n6⟩ := NewArr.mv _ T5 s _ _ hh5.symm (Vm.Alike.refl _) rfl e8
  rw [hh5] at z8
  have hB1 := hB.keep X8.warmed.alike (n6 _ _ hB.1)
  have hne : s.heap.size ≠ a := (Nat.ne_of_lt (Array.getElem?_eq_some_iff.mp hB.1).1).symm
  have c9 : Steps p.tables e below (s₁.setTop (entryFrame m #[.ref a, .ref b, .int (Int32.ofNat o), .int (Int32.ofNat len), .null] 6)) (T8.setTop (mkF m 39 #[.val (.ref a), .val (.ref b), .val (.int (Int32.ofNat o)), .val (.int (Int32.ofNat len)), .val .null, .unset] [.ref s.heap.size])) := g8
  have c10 : Steps p.tables e below (s₁.setTop (entryFrame m #[.ref a, .ref b, .int (Int32.ofNat o), .int (Int32.ofNat len), .null] 6)) (T8.setTop (mkF m 45 #[.val (.ref a), .val (.ref b), .val (.int (Int32.ofNat o)), .val (.int (Int32.ofNat len)), .val .null, .val (.ref s.heap.size)] [.int (Int32.ofNat N.slots.size), .ref s.heap.size, .ref a])) := by
    have hc : Steps p.tables e below (s₁.setTop (entryFrame m #[.ref a, .ref b, .int (Int32.ofNat o), .int (Int32.ofNat len), .null] 6)) (T8.setTop (mkF m 45 #[.val (.ref a), .val (.ref b), .val (.int (Int32.ofNat o)), .val (.int (Int32.ofNat len)), .val .null, .val (.ref s.heap.size)] [.int (Int32.ofNat len), .ref s.heap.size, .ref a])) := c9.trans (by
      refine XS.astore X8.here hexec rfl (hb hbytes d39) rfl rfl rfl ?_
      refine XS.aloadN X8.here hexec rfl (hb hbytes d41) rfl rfl ?_
      refine XS.aload X8.here hexec rfl (hb hbytes d42) rfl rfl ?_
      refine XS.iloadN X8.here hexec rfl (hb hbytes d44) rfl ?_
      exact Steps.refl _)
    rw [n4]; exact hc
  obtain ⟨v11, T11, X11, E11, g11⟩ := X8.callS hexec (CodL.law l s.heap.size N) hown (wks W (staticW "java/lang/String" 47 CodL.yN)) (wk W CodL.tab) (W := 1) (Nat.le_of_ble_eq_true rfl) (Nat.le_of_ble_eq_true rfl) (Nat.le_refl _) (by show 0 + len + 0 ≤ len; omega) (g := (mkF m 45 #[.val (.ref a), .val (.ref b), .val (.int (Int32.ofNat o)), .val (.int (Int32.ofNat len)), .val .null, .val (.ref s.heap.size)] [.int (Int32.ofNat N.slots.size), .ref s.heap.size, .ref a])) rfl (by rw [hml]; rfl) c10 (argsL := [.ref s.heap.size, .int (Int32.ofNat N.slots.size)]) (rest := [.ref a]) rfl rfl (by show 2 * 0 + (1 + 0) ≤ _; decide) (hb hbytes d45) (⟨rfl, n1⟩)
  obtain ⟨rfl, q11⟩ := E11
  have hB11 := hB1.mv (X8.warmed.alike.symm.trans X11.warmed.alike) q11
  have c12 : Steps p.tables e below (s₁.setTop (entryFrame m #[.ref a, .ref b, .int (Int32.ofNat o), .int (Int32.ofNat len), .null] 6)) (T11.setTop (mkF m 48 #[.val (.ref a), .val (.ref b), .val (.int (Int32.ofNat o)), .val (.int (Int32.ofNat len)), .val .null, .val (.ref s.heap.size)] [.int 0, .ref a])) := g11
  obtain ⟨T13, X13, p13, bl13, sl13, st13⟩ := X11.finit hexec hown (wk W (.fieldLink "java/lang/String" 15 "java/lang/String" "coder" "B")) (Or.inr ⟨_, (wk W (.laysFinal "java/lang/String" "java/lang/String" "coder" "B"))⟩) (Or.inl ⟨rfl, hnm⟩) f2 (Or.inl rfl) hB11 (t := .byte) (by decide +kernel) rfl (g := (mkF m 48 #[.val (.ref a), .val (.ref b), .val (.int (Int32.ofNat o)), .val (.int (Int32.ofNat len)), .val .null, .val (.ref s.heap.size)] [.int 0, .ref a])) rfl (rest := []) rfl (hb hbytes d48)
  have c14 : Steps p.tables e below (s₁.setTop (entryFrame m #[.ref a, .ref b, .int (Int32.ofNat o), .int (Int32.ofNat len), .null] 6)) (T13.setTop (mkF m 54 #[.val (.ref a), .val (.ref b), .val (.int (Int32.ofNat o)), .val (.int (Int32.ofNat len)), .val .null, .val (.ref s.heap.size)] [.ref s.heap.size, .ref a])) := (c12.trans (st13 _ (Steps.refl _))).trans (by
    refine XS.aloadN X13.here hexec rfl (hb hbytes d51) rfl rfl ?_
    refine XS.aload X13.here hexec rfl (hb hbytes d52) rfl rfl ?_
    exact Steps.refl _)
  obtain ⟨T15, X15, p15, bl15, sl15, st15⟩ := X13.finit hexec hown (wk W (.fieldLink "java/lang/String" 9 "java/lang/String" "value" "[B")) (Or.inr ⟨_, (wk W (.laysFinal "java/lang/String" "java/lang/String" "value" "[B"))⟩) (Or.inl ⟨rfl, hnm⟩) f1 (Or.inl rfl) bl13 (t := (.array .byte)) (by decide +kernel) rfl (g := (mkF m 54 #[.val (.ref a), .val (.ref b), .val (.int (Int32.ofNat o)), .val (.int (Int32.ofNat len)), .val .null, .val (.ref s.heap.size)] [.ref s.heap.size, .ref a])) rfl (rest := []) rfl (hb hbytes d54)
  have c16 : Steps p.tables e below (s₁.setTop (entryFrame m #[.ref a, .ref b, .int (Int32.ofNat o), .int (Int32.ofNat len), .null] 6)) (T15.setTop (mkF m 57 #[.val (.ref a), .val (.ref b), .val (.int (Int32.ofNat o)), .val (.int (Int32.ofNat len)), .val .null, .val (.ref s.heap.size)] [])) := c14.trans (st15 _ (Steps.refl _))
  have ap := apart (Or.inr ⟨_, (wk W (.laysFinal "java/lang/String" "java/lang/String" "value" "[B"))⟩) (Or.inr ⟨_, (wk W (.laysFinal "java/lang/String" "java/lang/String" "coder" "B"))⟩) f1 f2 (t₁ := .array .byte) (t₂ := .byte) (by decide +kernel) (by decide +kernel) (by decide)
  have al := X8.warmed.alike.symm.trans X15.warmed.alike
  have n7 : T11.heap[s.heap.size]? = some N := by rw [q11]; exact n1.1
  exact ⟨T15, none, _, _, _, X15, by simp, rfl, by omega, (fun _ => rfl), ⟨rfl, _, N, bl15, ((Same.refl D _).set _ (by simp)).set _ (by simp), sl15, (Cell.slots_setSlot_ne _ ap).trans sl13, n1.keep al (p15.other hne (p13.other hne n7)), n2, by rw [al.findClass]; exact n3, n4, n5, fun y c h1 h2 => p15.other h1 (p13.other h1 (by rw [q11]; exact n6 y c h2)), by rw [p15.2.2, p13.2.2, q11]; exact z8⟩, fun fs hl => c16.trans (X15.returnOut hexec hret (hb hbytes d57) hl)⟩
end New4
namespace New1
def yN : MethodName := ⟨"java/lang/String", "<init>", "([C)V"⟩
abbrev yB : ByteArray := jdk_42_method_3_code
theorem d0 : decode yB 0 = .ok (.aload_n 0, 1) := by decide +kernel
theorem d1 : decode yB 1 = .ok (.aload_n 1, 1) := by decide +kernel
theorem d2 : decode yB 2 = .ok (.iconst 0, 1) := by decide +kernel
theorem d3 : decode yB 3 = .ok (.aload_n 1, 1) := by decide +kernel
theorem d4 : decode yB 4 = .ok (.arraylength, 1) := by decide +kernel
theorem d5 : decode yB 5 = .ok (.aconst_null, 1) := by decide +kernel
theorem d6 : decode yB 6 = .ok (.invokespecial 27, 3) := by decide +kernel
theorem d9 : decode yB 9 = .ok (.return_, 1) := by decide +kernel
def site : List Cond := [New4.tab] ++ initW "java/lang/String" 27 New4.yN
def tab : Cond := tabOf yN yB 2 none site
def P (a : Addr) (D : Cell) (fV fC : Field) (b : Addr) (A : Cell) (z : Int32) (args : Array Value) (s : State) : Prop := args = #[.ref a, .ref b] ∧ Blank "java/lang/String" a D s ∧ Found "java/lang/String" "value" "[B" fV s ∧ Found "java/lang/String" "coder" "B" fC s ∧ Ch b A s ∧ StaticIs s "java/lang/String" "COMPACT_STRINGS" "Z" (.int z) ∧ ¬ z = 0 ∧ 0 < A.slots.size ∧ A.slots.size ≤ 536870912 ∧ ∀ i, i < A.slots.size → ¬ 255 < cv A i
def E (a : Addr) (D : Cell) (fV fC : Field) (A : Cell) (r : Option Value) (s u : State) : Prop := Got a D fV fC A 0 A.slots.size r s u
/-- new String(chars), not empty, no char above 255: a Latin-1 String of their low bytes -/
theorem law (l : Launch) (a : Addr) (D : Cell) (fV fC : Field) (b : Addr) (A : Cell) (z : Int32) : Law l yN 2 1 3 52 yB 2 none site (P a D fV fC b A z) (E a D fV fC A) [⟨a, fC.slot⟩, ⟨a, fV.slot⟩] 1 A.slots.size := by
  refine Law.of_walk (plainFor_of_name (by decide +kernel)) (by decide +kernel) (by decide +kernel) (by decide) (fun _ _ h => by rw [h.1]; rfl) (fun _ U U' hal hh h => ⟨h.1, h.2.1.mv hal hh, h.2.2.1.al hal, h.2.2.2.1.al hal, h.2.2.2.2.1.mv hal hh, h.2.2.2.2.2.1.there hal hh, h.2.2.2.2.2.2⟩) (fun r U U' V V' h1 hal h2 h => Got.mv r U U' V V' h1 hal h2 h) ?_
  intro p e s m args below meth c s₁ X0 hexec hbytes hml hret hlk hnm hown hh0 W hP
  obtain ⟨rfl, hB, f1, f2, hA, s1, hz, l0, l2, hp⟩ := hP
  have c1 : Steps p.tables e below (s₁.setTop (entryFrame m #[.ref a, .ref b] 2)) (s₁.setTop (mkF m 0 #[.val (.ref a), .val (.ref b)] [])) := entry rfl
  have c2 : Steps p.tables e below (s₁.setTop (entryFrame m #[.ref a, .ref b] 2)) (s₁.setTop (mkF m 6 #[.val (.ref a), .val (.ref b)] [.null, .int (Int32.ofNat A.slots.size), .int 0, .ref b, .ref a])) := c1.trans (by
    refine XS.aloadN X0.here hexec rfl (hb hbytes d0) rfl rfl ?_
    refine XS.aloadN X0.here hexec rfl (hb hbytes d1) rfl rfl ?_
    refine iconstV X0.here hexec rfl 0 (hb hbytes d2) (by decide) ?_
    refine XS.aloadN X0.here hexec rfl (hb hbytes d3) rfl rfl ?_
    refine X0.alen hexec (hA.1.mv X0.warmed.alike hh0) rfl rfl (hb hbytes d4) ?_
    refine XS.aconstNull X0.here hexec rfl (hb hbytes d5) ?_
    exact Steps.refl _)
  obtain ⟨v3, T3, X3, E3, g3⟩ := X0.callN hexec (New4.law l a D fV fC b A z 0 A.slots.size) rfl hown (wks W (initW "java/lang/String" 27 New4.yN)) (W New4.tab (by simp only [site, List.mem_cons, List.mem_append, true_or, or_true])) (W := 0) (Nat.le_of_ble_eq_true rfl) (Nat.le_of_ble_eq_true rfl) (Nat.le_refl _) (by show 0 + A.slots.size ≤ A.slots.size; omega) (g := (mkF m 6 #[.val (.ref a), .val (.ref b)] [.null, .int (Int32.ofNat A.slots.size), .int (Int32.ofNat 0), .ref b, .ref a])) rfl (by rw [hml]; rfl) c2 (argsL := [.ref b, .int (Int32.ofNat 0), .int (Int32.ofNat A.slots.size), .null]) (rest := []) rfl rfl (by show 2 * 0 + 0 ≤ _; decide) (hb hbytes d6) (⟨rfl, hB.mv X0.warmed.alike hh0, f1.al X0.warmed.alike, f2.al X0.warmed.alike, hA.mv X0.warmed.alike hh0, s1.there X0.warmed.alike hh0, hz, l0, by omega, l2, fun i hi => by rw [Nat.zero_add]; exact hp i hi⟩)
  have e0 := Got.mv _ s₁ s _ _ hh0.symm (Vm.Alike.refl _) rfl E3
  obtain rfl := e0.1
  have c4 : Steps p.tables e below (s₁.setTop (entryFrame m #[.ref a, .ref b] 2)) (T3.setTop (mkF m 9 #[.val (.ref a), .val (.ref b)] [])) := g3
  exact ⟨T3, none, _, _, _, X3, by simp, rfl, by omega, (fun _ => rfl), e0, fun fs hl => c4.trans (X3.returnOut hexec hret (hb hbytes d9) hl)⟩
theorem pays {l : Launch} {R : Room} {p : Program} {e : Env} {below : List Frame} {s : State} {sargs : Array Value} {len W : Nat} (a : Addr) (D : Cell) (fV fC : Field) (b : Addr) (A : Cell) (z : Int32) (htab : tab.before sargs s = true) (hfr : 4 ≤ R.frames) (hlo : W + 65 ≤ R.locals) :
    Back l R p e below s sargs yN len W (fun A₁ a₁ => A₁.cells + 1 ≤ R.cells ∧ A₁.slots + A.slots.size ≤ R.slots ∧ P a D fV fC b A z a₁ A₁.U) (fun A₁ _ v₁ B₁ => E a D fV fC A v₁ A₁.U B₁.U ∧ B₁.locs = A₁.locs ++ [⟨a, fC.slot⟩, ⟨a, fV.slot⟩] ∧ B₁.cells = A₁.cells + 1 ∧ B₁.slots = A₁.slots + A.slots.size) :=
  (law l a D fV fC b A z).pays htab hfr (by omega)
end New1
/-- the byte, read back as charAt reads it, is the char -/
theorem lo8_mask {x : Int32} (h0 : ¬ x < 0) (h1 : ¬ 255 < x) : lo8 x &&& 255 = x := by
  have t : ∀ k : Fin 256, lo8 (Int32.ofNat k.val) &&& 255 = Int32.ofNat k.val := by decide +kernel
  rw [Int32.lt_iff_toInt_lt] at h0 h1
  have e0 : (0 : Int32).toInt = 0 := rfl
  have e1 : (255 : Int32).toInt = 255 := rfl
  obtain ⟨k, hk⟩ : ∃ k : Nat, x.toInt = k := ⟨x.toInt.toNat, by omega⟩
  have hx : x = Int32.ofNat k := Int32.toInt_inj.mp (by rw [hk, Int32.toInt_ofNat_small (by omega)])
  rw [hx]
  exact t ⟨k, by omega⟩
end StrChars
namespace StrChars.Road
open Jvm Sem ClassFile Op Lib Jvm.Stand Jvm.Free Jvm.Free.XT
open Jvm.Lib.Cold (StaticIs)
abbrev ST : String := "java/lang/String"
/-- every table word that New1's law asks, flat -/
abbrev words : List Jvm.Cond := [.code New1.yN New1.yB 2 none, .initialized ST, .methodLink ST 27 New4.yN, .instanceMethod New4.yN,
  .code New4.yN New4.yB 6 none, .fieldLink ST 38 ST "COMPACT_STRINGS" "Z", .laysFinal ST ST "value" "[B", .fieldLink ST 9 ST "value" "[B", .laysFinal ST ST "coder" "B", .fieldLink ST 15 ST "coder" "B",
  .methodLink ST 1 Lib.objectInit, .instanceMethod Lib.objectInit, .code Lib.objectInit ⟨#[0xb1]⟩ 1 none, .methodLink ST 177 Cmp3.yN, .static Cmp3.yN, .methodLink ST 47 CodL.yN, .static CodL.yN,
  .code Cmp3.yN Cmp3.yB 6 (some (.array .byte)), .initialized U16, .arrayClass .byte, .methodLink U16 115 Cmp5.yN, .static Cmp5.yN, .code Cmp5.yN Cmp5.yB 7 (some .int), .code CodL.yN CodL.yB 2 (some .byte)]
theorem tab_of {a : Array Value} {s : State} (h : ∀ w ∈ words, w.before a s = true) : New1.tab.before a s = true := by
  have h5 : Cmp5.tab.before a s = true := unparts (wk h (.code Cmp5.yN Cmp5.yB 7 (some .int))) (wks h (.initialized Cmp5.yN.cls :: Cmp5.site))
  have hc : CodL.tab.before a s = true := unparts (wk h (.code CodL.yN CodL.yB 2 (some .byte))) (wks h (.initialized CodL.yN.cls :: CodL.site))
  have q5 : ∀ w ∈ Cmp5.tab :: words, w.before a s = true := fun w hw => (List.mem_cons.mp hw).elim (fun e => e ▸ h5) (h w)
  have h3 : Cmp3.tab.before a s = true := unparts (wk q5 (.code Cmp3.yN Cmp3.yB 6 (some (.array .byte)))) (wks q5 (.initialized Cmp3.yN.cls :: Cmp3.site))
  have q3 : ∀ w ∈ Cmp3.tab :: CodL.tab :: words, w.before a s = true := fun w hw => (List.mem_cons.mp hw).elim (fun e => e ▸ h3) fun hw => (List.mem_cons.mp hw).elim (fun e => e ▸ hc) (h w)
  have h4 : New4.tab.before a s = true := unparts (wk q3 (.code New4.yN New4.yB 6 none)) (wks q3 (.initialized New4.yN.cls :: New4.site))
  have q4 : ∀ w ∈ New4.tab :: words, w.before a s = true := fun w hw => (List.mem_cons.mp hw).elim (fun e => e ▸ h4) (h w)
  exact unparts (wk q4 (.code New1.yN New1.yB 2 none)) (wks q4 (.initialized New1.yN.cls :: New1.site))
/-- the words ride from the start Z to the walk's own state -/
theorem moved {Z s : State} {a0 args : Array Value} (hZ : Z.Warmed39 s.vm) (hw : ∀ d ∈ words, d.before a0 Z = true) : ∀ d ∈ words, d.before args s = true := fun d hd => by
  have q := hw d hd
  have t : ∀ d ∈ words, d = .arrayClass .byte ∨ (d.onTables && d.keepsFace) = true := by decide +kernel
  rcases t d hd with rfl | t
  · exact RoadKit.mvA hZ q
  · exact RoadKit.mv hZ q t
/-- WHAT COMES BACK, over the tables of the start Z: h the heap at the call, h' behind it -/
def Q (Z : State) (x : Addr) (A : Cell) (h : Heap) (v : Option Value) (h' : Heap) (L : List Loc) : Prop := v = none ∧ (∀ y ∈ L, y.base = x) ∧ RoadKit.Keep h h' [x] ∧ h'.size = h.size + 1 ∧ RoadKit.Exa Z h' x ST ∧ RoadKit.Fld Z h' x ST "value" "[B" (.ref h.size) ∧ RoadKit.Fld Z h' x ST "coder" "B" (.int 0) ∧
  (∃ V : Cell, RoadKit.Arr Z h' h.size V .byte ∧ V.vm = .none ∧ Z.vm.findClass "[B" = some V.cls ∧ V.slots.size = A.slots.size ∧ ∀ j, j < A.slots.size → V.slots[j]? = some (.int (lo8 (cv A j)))) ∧
  ∀ (O n d : String) (w : Value), RoadKit.Fld Z h x O n d w → RoadKit.slotOf Z O n d ≠ RoadKit.slotOf Z ST "value" "[B" → RoadKit.slotOf Z O n d ≠ RoadKit.slotOf Z ST "coder" "B" → RoadKit.Fld Z h' x O n d w
/-- **new String(chars) AT A CALL, IN THE ROAD'S FORM**: for specialBack behind newO: x the fresh String, b the char[] with the cell A -/
theorem back {p : Program} {l : Launch} {e : Env} {R : Room} {s : State} {args : Array Value} {below : List Frame} {len W : Nat} {Z : State} {a0 : Array Value} {h : Heap} (hZ : Z.Warmed39 s.vm) (hw : ∀ d ∈ words, d.before a0 Z = true) {kI : Nat} (wi : (Jvm.Cond.instantiable ST kI).before a0 Z = true)
    {x b : Addr} {A : Cell} {z : Int32} {v0 c0 : Value} (E : RoadKit.Exa Z h x ST) (V : RoadKit.Fld Z h x ST "value" "[B" v0) (C : RoadKit.Fld Z h x ST "coder" "B" c0) (K : RoadKit.Arr Z h b A .char) (hty : Typed .char A) (S : RoadKit.Sta Z h ST "COMPACT_STRINGS" "Z" (.int z)) (hz : ¬ z = 0)
    (l0 : 0 < A.slots.size) (l2 : A.slots.size ≤ 536870912) (hp : ∀ i, i < A.slots.size → ¬ 255 < cv A i) (hfr : 4 ≤ R.frames) (hlo : W + 65 ≤ R.locals) :
    Back l R p e below s args New1.yN len W (fun P a => a = #[.ref x, .ref b] ∧ P.U.heap = h ∧ P.cells + 1 ≤ R.cells ∧ P.slots + A.slots.size ≤ R.slots)
      (fun P _ v B => ∃ L, Q Z x A h v B.U.heap L ∧ B.locs = P.locs ++ L ∧ B.cells = P.cells + 1 ∧ B.slots = P.slots + A.slots.size) := by
  intro m meth c P g ig mk a X hg hsize hdg hW hn hp'
  obtain ⟨rfl, rfl, r1, r2⟩ := hp'
  have al : Z.vm.Alike P.U.vm := hZ.alike.trans X.warmed.alike
  obtain ⟨D, cfV, kV, iV, fV, hD, gV, stV, knV, obV, asV, slV⟩ := id V
  obtain ⟨D', cfC, kC, iC, fC, hD', gC, stC, -, -, asC, slC⟩ := id C
  cases hD.symm.trans hD'
  obtain ⟨D2, kD, e1, e2, e3, e4, e5⟩ := id E
  cases hD.symm.trans e1
  obtain ⟨c2, k2, i1, i2, i3, -⟩ := Cond.instantiable_spec wi
  cases e2.symm.trans i1
  cases e3.symm.trans i2
  obtain ⟨kU, u1, u2⟩ := al.2.2 _ _ e3
  have hB : Blank ST x D P.U := ⟨hD, ⟨knV, fun q hq => by rw [hq] at obV; cases obV⟩, by rw [al.findClass]; exact e2, kU, u1, by rw [u2]; exact i3, by rw [u2]; exact e5 i3⟩
  have F1 : Found ST "value" "[B" fV P.U := ⟨SBG.found_only al ⟨cfV, kV, iV, gV⟩, stV⟩
  have F2 : Found ST "coder" "B" fC P.U := ⟨SBG.found_only al ⟨cfC, kC, iC, gC⟩, stC⟩
  have hA : Ch b A P.U := ⟨⟨K.1, State.isArrayOf_alike al K.2.1, K.2.2, by omega⟩, hty⟩
  have hS : StaticIs P.U ST "COMPACT_STRINGS" "Z" (.int z) := by
    obtain ⟨cfS, iS, kS, fS, st, cS, t1, t2, t3, t4, t5, t6, t7⟩ := S
    exact StaticIs.there (s := { Z with heap := P.U.heap }) ⟨cfS, iS, kS, fS, st, cS, t1, t2, t3, t4, t5, (fun q => by rw [q] at t6; cases t6), t7⟩ al rfl
  obtain ⟨v, B, X', ⟨⟨hv, E', V', q1, q2, q3, q4, q5, q6, q7, q8, q9, q10, q11⟩, hl, hc, hs⟩, st⟩ := New1.pays x D fV fC b A z (tab_of (moved hZ hw)) hfr hlo m meth c P g ig mk _ X hg hsize hdg hW hn ⟨r1, r2, rfl, hB, F1, F2, hA, hS, hz, l0, l2, hp⟩
  have al' : Z.vm.Alike B.U.vm := hZ.alike.trans X'.warmed.alike
  have hsz : E'.slots.size = D.slots.size := by
    obtain ⟨-, -, -, kB, w1, w2, w3⟩ := q1
    obtain ⟨kB', y1, y2⟩ := al'.2.2 _ _ e3
    rw [q2.2.1] at w1
    cases w1.symm.trans y1
    rw [w3, e5 i3, y2]
  refine ⟨v, B, X', ⟨_, ⟨hv, ?_, ⟨by omega, fun y cy hy hn' => q10 y cy (by simpa using hn') hy, fun y cy hy => ?_⟩, q11, ⟨E', _, q1.1, by rw [q2.2.1]; exact e2, by rw [q2.2.1]; exact e3, by rw [q2.1]; exact obV, fun _ => by rw [hsz]; exact e5 i3⟩,
    ⟨E', cfV, kV, iV, fV, q1.1, gV, stV, by rw [q2.1]; exact knV, by rw [q2.1]; exact obV, by rw [q2.2.1]; exact asV, q3⟩, ⟨E', cfC, kC, iC, fC, q1.1, gC, stC, by rw [q2.1]; exact knV, by rw [q2.1]; exact obV, by rw [q2.2.1]; exact asC, q4⟩,
    ⟨V', ⟨q5.1, State.isArrayOf_alike al'.symm q5.2.1, q5.2.2.1⟩, q6, by rw [← al'.findClass]; exact q7, q8, fun j hj => by have := q9 j hj; rwa [Nat.zero_add] at this⟩, fun O n d w F n1 n2 => ?_⟩, hl, hc, hs⟩, st⟩
  · intro y hy
    simp only [List.mem_cons, List.not_mem_nil, or_false] at hy
    rcases hy with rfl | rfl <;> rfl
  · by_cases q : y = x
    · subst q
      cases hD.symm.trans hy
      exact ⟨E', q1.1, q2.2.1, q2.1, hsz⟩
    · exact ⟨cy, q10 y cy q hy, rfl, rfl, rfl⟩
  · obtain ⟨D3, cf, k, i, f, g1, g2, g3, g4, g5, g6, g7⟩ := F
    cases hD.symm.trans g1
    simp only [RoadKit.slotOf, g2, gV, gC, Option.map_some, Option.getD_some] at n1 n2
    exact ⟨E', cf, k, i, f, q1.1, g2, g3, by rw [q2.1]; exact g4, by rw [q2.1]; exact g5, by rw [q2.2.1]; exact g6, by rw [q2.2.2 f.slot (by simp [n1, n2])]; exact g7⟩
end StrChars.Road
namespace StrChars.Road
open Jvm Sem ClassFile Op Lib Jvm.Stand Jvm.Free Jvm.Free.XT
/-- WHAT COMES BACK, the byte[] as a list of values -/
def QA (Z : State) (x : Addr) (zn : Int32) (cs : List Int32) (h : Heap) (v : Option Value) (h' : Heap) (L : List Loc) : Prop := v = none ∧ (∀ y ∈ L, y.base = x) ∧ RoadKit.Keep h h' [x] ∧ h'.size = h.size + 1 ∧ RoadKit.Exa Z h' x ST ∧ RoadKit.Fld Z h' x ST "value" "[B" (.ref h.size) ∧ RoadKit.Fld Z h' x ST "coder" "B" (.int 0) ∧
  (∃ kb, Z.vm.findClass "[B" = some kb ∧ RoadKit.Arv Z h' h.size kb .byte zn (cs.map fun c => .int (lo8 c)) (.int 0)) ∧
  ∀ (O n d : String) (w : Value), RoadKit.Fld Z h x O n d w → RoadKit.slotOf Z O n d ≠ RoadKit.slotOf Z ST "value" "[B" → RoadKit.slotOf Z O n d ≠ RoadKit.slotOf Z ST "coder" "B" → RoadKit.Fld Z h' x O n d w
/-- **new String(chars) AT A CALL, THE ARRAYS AS LISTS**: the char[] at b holds cs, not empty, no char above 255 -/
theorem backArv {p : Program} {l : Launch} {e : Env} {R : Room} {s : State} {args : Array Value} {below : List Frame} {len W : Nat} {Z : State} {a0 : Array Value} {h : Heap} (hZ : Z.Warmed39 s.vm) (hw : ∀ d ∈ words, d.before a0 Z = true) {kI : Nat} (wi : (Jvm.Cond.instantiable ST kI).before a0 Z = true)
    {x b : Addr} {k : ClassId} {zn z : Int32} {cs : List Int32} {dv v0 c0 : Value} (E : RoadKit.Exa Z h x ST) (V : RoadKit.Fld Z h x ST "value" "[B" v0) (C : RoadKit.Fld Z h x ST "coder" "B" c0) (K : RoadKit.Arv Z h b k .char zn (cs.map Value.int) dv) (S : RoadKit.Sta Z h ST "COMPACT_STRINGS" "Z" (.int z)) (hz : ¬ z = 0)
    (hlen : zn.toNatClampNeg = cs.length) (h0 : 0 < cs.length) (hbig : cs.length ≤ 536870912) (hall : ∀ c ∈ cs, ¬ 255 < c) (hfr : 4 ≤ R.frames) (hlo : W + 65 ≤ R.locals) :
    Back l R p e below s args New1.yN len W (fun P a => a = #[.ref x, .ref b] ∧ P.U.heap = h ∧ P.cells + 1 ≤ R.cells ∧ P.slots + cs.length ≤ R.slots)
      (fun P _ v B => ∃ L, QA Z x zn cs h v B.U.heap L ∧ B.locs = P.locs ++ L ∧ B.cells = P.cells + 1 ∧ B.slots = P.slots + cs.length) := by
  obtain ⟨A, K1, K2, K3, K4, K5, K6⟩ := K
  have e : A.slots.size = cs.length := K3.trans hlen
  have hat : ∀ (i : Nat) (hi : i < cs.length), A.slots[i]? = some (.int cs[i]) := fun i hi => by rw [K5 i (by omega)]; simp [List.getD_eq_getElem?_getD, hi]
  have hcv : ∀ (i : Nat) (hi : i < cs.length), cv A i = cs[i] := fun i hi => by unfold cv; rw [hat i hi]
  have hty : Typed .char A := fun i v hv => by
    have hi : i < A.slots.size := (Array.getElem?_eq_some_iff.mp hv).1
    have q := K5 i hi
    rw [hv] at q
    rw [Option.some.inj q]
    exact K6 i hi
  refine Back.mono (back hZ hw wi E V C K1 hty S hz (by omega) (by omega) (fun i hi => by rw [hcv i (by omega)]; exact hall _ (List.getElem_mem _)) hfr hlo) (fun P a hp => ⟨hp.1, hp.2.1, hp.2.2.1, by rw [e]; exact hp.2.2.2⟩) (fun P a v B hp hq => ?_)
  obtain ⟨L, ⟨q1, q2, q3, q4, q5, q6, q7, ⟨V', v1, v2, v3, v4, v5⟩, q9⟩, hl, hc, hs⟩ := hq
  refine ⟨L, ⟨q1, q2, q3, q4, q5, q6, q7, ⟨V'.cls, v3, V', v1, rfl, by rw [v4, e, hlen], K4, fun i hi => ?_, fun i hi => ?_⟩, q9⟩, hl, hc, by rw [hs, e]⟩
  · have hi' : i < cs.length := by omega
    rw [v5 i (by omega), hcv i hi']; simp [List.getD_eq_getElem?_getD, hi']
  · have hi' : i < cs.length := by omega
    simp only [List.getD_eq_getElem?_getD, List.getElem?_map, List.getElem?_eq_getElem hi', Option.map_some, Option.getD_some]
    exact fits_lo8 _
end StrChars.Road
namespace StrChars.Road
open Jvm Sem ClassFile Op Lib Jvm.Stand Jvm.Free Jvm.Free.XT
/-- WHAT COMES BACK, in the writer's own shape -/
def QV (Z : State) (x : Addr) (N : Int32) (bs : List Int32) (h : Heap) (n0 : Nat) (v : Option Value) (h' : Heap) (L : List Loc) : Prop := v = none ∧ RoadKit.Fr n0 L ∧ RoadKit.Keep h h' [x] ∧ RoadKit.Exa Z h' x ST ∧ RoadKit.Fld Z h' x ST "coder" "B" (.int 0) ∧
  ∃ (t : Addr) (kb : ClassId), n0 ≤ t ∧ h.size ≤ t ∧ ¬ t = x ∧ RoadKit.Fld Z h' x ST "value" "[B" (.ref t) ∧ RoadKit.Arv Z h' t kb .byte N (bs.map Value.int) (.int 0)
/-- **new String(chars) AT A CALL, FOR THE WRITER**: a char[] of n known ints, each 0 to 255 -/
theorem backV {p : Program} {l : Launch} {e : Env} {R : Room} {s : State} {args : Array Value} {below : List Frame} {len W : Nat} {Z : State} {a0 : Array Value} {h : Heap} (hZ : Z.Warmed39 s.vm) (hw : ∀ d ∈ words, d.before a0 Z = true) {kI : Nat} (wi : (Jvm.Cond.instantiable ST kI).before a0 Z = true)
    {x b : Addr} {kC : ClassId} {cs bs : List Int32} {d v0 c0 : Value} {z N : Int32} {n n0 : Nat} (hx0 : n0 ≤ x) (hh0 : n0 ≤ h.size) (E : RoadKit.Exa Z h x ST) (V : RoadKit.Fld Z h x ST "value" "[B" v0) (C : RoadKit.Fld Z h x ST "coder" "B" c0) (K : RoadKit.Arv Z h b kC .char N (cs.map Value.int) d) (S : RoadKit.Sta Z h ST "COMPACT_STRINGS" "Z" (.int z)) (hz : ¬ z = 0)
    (hn : cs.length = n) (hN : N = Int32.ofNat n) (l0 : 0 < n) (l2 : n ≤ 4000) (hp : ∀ c ∈ cs, ¬ c < 0 ∧ ¬ (255 : Int32) < c) (hb : bs = cs.map (fun c => c.toInt8.toInt32)) (hfr : 4 ≤ R.frames) (hlo : W + 65 ≤ R.locals) :
    Back l R p e below s args (⟨"java/lang/String", "<init>", "([C)V"⟩ : MethodName) len W (fun P a => a = #[.ref x, .ref b] ∧ P.U.heap = h ∧ P.cells + 1 ≤ R.cells ∧ P.slots + n ≤ R.slots)
      (fun P _ v B => ∃ L, QV Z x N bs h n0 v B.U.heap L ∧ B.locs = P.locs ++ L ∧ B.cells = P.cells + 1 ∧ B.slots = P.slots + n) := by
  subst hn hN hb
  refine Back.mono (backArv hZ hw wi E V C K S hz (n32 (by omega)) l0 (by omega) (fun c hc => (hp c hc).2) hfr hlo) (fun P a hp => hp) (fun P a v B hp hq => ?_)
  obtain ⟨L, ⟨q1, q2, q3, q4, q5, q6, q7, ⟨kb, v1, v2⟩, q9⟩, hl, hc, hs⟩ := hq
  exact ⟨L, ⟨q1, fun y hy => by rw [q2 y hy]; exact hx0, q3, q5, q7, h.size, kb, hh0, Nat.le_refl _, Nat.ne_of_gt E.lt, q6, by rw [List.map_map]; exact v2⟩, hl, hc, hs⟩
end StrChars.Road
namespace StrChars
open Jvm Sem ClassFile Op Lib Jvm.Stand Jvm.Free.XT Jvm.Free.ALB Jvm.Free.JM Jvm.Free
open Jvm.Lib.Cold (StaticIs)
def hi8 (x : Int32) : Int32 := lo8 (x >>> ((8 : Int32) &&& 31))
/-- what StringUTF16.getChar makes of two bytes -/
def pairCh (u v : Int32) : Int32 := (((u &&& 255) <<< ((0 : Int32) &&& 31)) ||| ((v &&& 255) <<< ((8 : Int32) &&& 31))).toUInt32.toUInt16.toUInt32.toInt32
theorem shr0 (c : Int32) : c >>> ((0 : Int32) &&& 31) = c := by
  have e : ((0 : Int32) &&& 31) = 0 := by decide
  rw [e]
  apply Int32.toBitVec_inj.mp
  rw [Int32.toBitVec_shiftRight]
  have e1 : ((0 : Int32).toBitVec.smod 32) = 0#32 := by decide
  rw [e1, BitVec.sshiftRight_eq']
  exact BitVec.sshiftRight_zero
theorem lo8_and (x : Int32) : (lo8 x &&& 255).toBitVec.toNat = x.toBitVec.toNat % 256 := by
  have h : (lo8 x).toBitVec = (x.toBitVec.signExtend 8).signExtend 32 := by rw [lo8, Int8.toBitVec_toInt32, Int32.toBitVec_toInt8]
  rw [Int32.toBitVec_and, BitVec.toNat_and, h]
  have e : ((x.toBitVec.signExtend 8).signExtend 32).toNat % 256 = x.toBitVec.toNat % 256 := by
    rw [BitVec.toNat_signExtend]
    have hlt := x.toBitVec.isLt
    simp only [BitVec.toNat_setWidth, BitVec.toNat_signExtend]
    split <;> split <;> omega
  rw [← e]
  exact Nat.and_two_pow_sub_one_eq_mod _ 8
theorem pair_says {c : Int32} (h0 : ¬ c < 0) (h1 : ¬ 65535 < c) : pairCh (lo8 c) (hi8 c) = c := by
  rw [Int32.lt_iff_toInt_lt] at h0 h1
  have e0 : (0 : Int32).toInt = 0 := rfl
  have e1 : (65535 : Int32).toInt = 65535 := rfl
  have hc : c.toInt = c.toBitVec.toNat := by
    have := c.toBitVec.isLt
    have e : c.toInt = c.toBitVec.toInt := rfl
    rw [e] at h0 h1
    rw [e]
    rw [BitVec.toInt_eq_toNat_cond] at h0 h1 ⊢
    split at h0 <;> split <;> omega
  have hn : c.toBitVec.toNat < 65536 := by omega
  have a1 := lo8_and c
  have a2 : (hi8 c &&& 255).toBitVec.toNat = c.toBitVec.toNat / 256 := by
    rw [hi8, lo8_and]
    have e : ((8 : Int32) &&& 31) = 8 := by decide
    rw [e, Int32.toBitVec_shiftRight]
    have e2 : ((8 : Int32).toBitVec.smod 32) = 8#32 := by decide
    rw [e2, BitVec.sshiftRight_eq', BitVec.toNat_sshiftRight_of_msb_false (by rw [BitVec.msb_eq_false_iff_two_mul_lt]; omega)]
    show c.toBitVec.toNat >>> 8 % 256 = _
    rw [Nat.shiftRight_eq_div_pow]
    omega
  unfold pairCh
  apply Int32.toBitVec_inj.mp
  apply BitVec.eq_of_toNat_eq
  have f0 : ((0 : Int32) &&& 31) = 0 := by decide
  have f8 : ((8 : Int32) &&& 31) = 8 := by decide
  rw [f0, f8]
  have g : (((lo8 c &&& 255) <<< (0 : Int32)) ||| ((hi8 c &&& 255) <<< (8 : Int32))).toBitVec.toNat = c.toBitVec.toNat := by
    rw [Int32.toBitVec_or, Int32.toBitVec_shiftLeft, Int32.toBitVec_shiftLeft]
    have s0 : ((0 : Int32).toBitVec.smod 32) = 0#32 := by decide
    have s8 : ((8 : Int32).toBitVec.smod 32) = 8#32 := by decide
    rw [s0, s8, BitVec.toNat_or]
    simp only [BitVec.shiftLeft_eq', BitVec.toNat_shiftLeft, a1, a2]
    show (c.toBitVec.toNat % 256) <<< 0 % 2 ^ 32 ||| (c.toBitVec.toNat / 256) <<< 8 % 2 ^ 32 = _
    rw [Nat.shiftLeft_zero, Nat.mod_eq_of_lt (show c.toBitVec.toNat % 256 < 2 ^ 32 by omega), Nat.mod_eq_of_lt (show (c.toBitVec.toNat / 256) <<< 8 < 2 ^ 32 by rw [Nat.shiftLeft_eq]; omega), Nat.or_comm, ← Nat.shiftLeft_add_eq_or_of_lt (by omega), Nat.shiftLeft_eq]
    omega
  show BitVec.toNat (((((lo8 c &&& 255) <<< (0 : Int32)) ||| ((hi8 c &&& 255) <<< (8 : Int32))).toBitVec.setWidth 16).setWidth 32) = _
  rw [BitVec.toNat_setWidth, BitVec.toNat_setWidth, g]
  omega
end StrChars
namespace StrChars
open Jvm Sem ClassFile Op Lib Jvm.Stand Jvm.Free.XT Jvm.Free.ALB Jvm.Free.JM Jvm.Free
open Jvm.Lib.Cold (StaticIs)
theorem shr1 {n : Nat} (h : 2 * n < 2 ^ 31) : Int32.ofNat (2 * n) >>> ((1 : Int32) &&& 31) = Int32.ofNat n := by
  have e : ((1 : Int32) &&& 31) = 1 := by decide
  rw [e]
  apply Int32.toBitVec_inj.mp
  rw [Int32.toBitVec_shiftRight]
  have e1 : ((1 : Int32).toBitVec.smod 32) = 1#32 := by decide
  have hm : (BitVec.ofNat 32 (2 * n)).toNat = 2 * n := by rw [BitVec.toNat_ofNat, Nat.mod_eq_of_lt (by omega)]
  rw [e1, BitVec.sshiftRight_eq']
  apply BitVec.eq_of_toNat_eq
  show ((BitVec.ofNat 32 (2 * n)).sshiftRight 1).toNat = (BitVec.ofNat 32 n).toNat
  rw [BitVec.toNat_sshiftRight_of_msb_false (by rw [BitVec.msb_eq_false_iff_two_mul_lt, hm]; omega), hm, BitVec.toNat_ofNat, Nat.shiftRight_eq_div_pow]
  omega
/-- the array's cell V codes the n chars f 0 .. f (n - 1) by the coder cd, as the JDK does: coder 1 just where some char is above 255 -/
def Cod (cd : Int32) (n : Nat) (f : Nat → Int32) (V : Cell) : Prop := (cd = 0 ∧ V.slots.size = n ∧ ∀ j, j < n → V.slots[j]? = some (.int (lo8 (f j))) ∧ ¬ 255 < f j) ∨ (cd = 1 ∧ V.slots.size = 2 * n ∧ (∀ j, j < n → V.slots[2 * j]? = some (.int (lo8 (f j))) ∧ V.slots[2 * j + 1]? = some (.int (hi8 (f j)))) ∧ ∃ j, j < n ∧ 255 < f j)
theorem Cod.cd {cd : Int32} {n : Nat} {f : Nat → Int32} {V : Cell} (h : Cod cd n f V) : cd = 0 ∨ cd = 1 := h.imp (fun q => q.1) fun q => q.1
theorem Cod.len {cd : Int32} {n : Nat} {f : Nat → Int32} {V : Cell} (h : Cod cd n f V) (hs : V.slots.size < 2 ^ 31) : Int32.ofNat V.slots.size >>> (cd &&& 31) = Int32.ofNat n := by
  rcases h with ⟨rfl, h, -⟩ | ⟨rfl, h, -⟩
  · rw [shr0, h]
  · rw [h, shr1 (by omega)]
/-- **x is a String of the n chars f 0 .. f (n - 1)**, Latin-1 or UTF-16; its array at t has the cell V -/
def Txt (x t : Addr) (V : Cell) (cd : Int32) (n : Nat) (f : Nat → Int32) (U : State) : Prop := Exact "java/lang/String" x U ∧ Has x "java/lang/String" "value" "[B" (.ref t) U ∧ Has x "java/lang/String" "coder" "B" (.int cd) U ∧ XT.Arr .byte t V U ∧ Cod cd n f V ∧ ∀ j, j < n → ¬ f j < 0 ∧ ¬ 65535 < f j
theorem Txt.mv {x t : Addr} {V : Cell} {cd : Int32} {n : Nat} {f : Nat → Int32} {U U' : State} (h : Txt x t V cd n f U) (hal : U.vm.Alike U'.vm) (hh : U'.heap = U.heap) : Txt x t V cd n f U' := ⟨h.1.mv hal hh, h.2.1.mv hal hh, h.2.2.1.mv hal hh, h.2.2.2.1.mv hal hh, h.2.2.2.2⟩
namespace Cdr
def yN : MethodName := ⟨"java/lang/String", "coder", "()B"⟩
abbrev yB : ByteArray := jdk_42_method_152_code
theorem d0 : decode yB 0 = .ok (.getstatic 38, 3) := by decide +kernel
theorem d3 : decode yB 3 = .ok (.ifCond (.eq) 10, 3) := by decide +kernel
theorem d6 : decode yB 6 = .ok (.aload_n 0, 1) := by decide +kernel
theorem d7 : decode yB 7 = .ok (.getfield 15, 3) := by decide +kernel
theorem d10 : decode yB 10 = .ok (.goto 4, 3) := by decide +kernel
theorem d14 : decode yB 14 = .ok (.ireturn, 1) := by decide +kernel
def site : List Cond := [.fieldLink "java/lang/String" 38 "java/lang/String" "COMPACT_STRINGS" "Z", .fieldLink "java/lang/String" 15 "java/lang/String" "coder" "B"]
def tab : Cond := tabOf yN yB 1 (some .byte) site
def P (x : Addr) (cd z : Int32) (args : Array Value) (s : State) : Prop := args = #[.ref x] ∧ Has x "java/lang/String" "coder" "B" (.int cd) s ∧ (cd = 0 ∨ cd = 1) ∧ StaticIs s "java/lang/String" "COMPACT_STRINGS" "Z" (.int z) ∧ ¬ z = 0
def E (cd : Int32) (r : Option Value) (s u : State) : Prop := XT.PureE (some (.int cd)) r s u
theorem law (l : Launch) (x : Addr) (cd z : Int32) : Law l yN 1 0 0 0 yB 1 (some .byte) site (P x cd z) (E cd) [] 0 0 := by
  refine Law.of_walk (plainFor_of_name (by decide +kernel)) (by decide +kernel) (by decide +kernel) (by decide) (fun _ _ h => by rw [h.1]; rfl) (fun _ U U' hal hh h => ⟨h.1, h.2.1.mv hal hh, h.2.2.1, h.2.2.2.1.there hal hh, h.2.2.2.2⟩) (fun r U U' V V' h1 hal h2 h => XT.PureE.mv r U U' V V' h1 hal h2 h) ?_
  intro p e s m args below meth c s₁ X0 hexec hbytes hml hret hlk hnm hown hh0 W hP
  obtain ⟨rfl, hx, hc, s1, hz⟩ := hP
  have c1 : Steps p.tables e below (s₁.setTop (entryFrame m #[.ref x] 1)) (s₁.setTop (mkF m 0 #[.val (.ref x)] [])) := entry rfl
  obtain ⟨T2, X2, q2, st2⟩ := X0.sget hexec hown (wk W (.fieldLink "java/lang/String" 38 "java/lang/String" "COMPACT_STRINGS" "Z")) s1 (fun _ _ h => by rw [hh0]; exact h) (g := (mkF m 0 #[.val (.ref x)] [])) rfl (hb hbytes d0)
  have hh2 := q2.trans hh0
  have c3 : Steps p.tables e below (s₁.setTop (entryFrame m #[.ref x] 1)) (T2.setTop (mkF m 7 #[.val (.ref x)] [.ref x])) := (c1.trans (st2 _ (Steps.refl _))).trans (by
    refine XS.ifNo X2.here hexec rfl (hb hbytes d3) rfl (i0_eq_f hz) ?_
    refine XS.aloadN X2.here hexec rfl (hb hbytes d6) rfl rfl ?_
    exact Steps.refl _)
  obtain ⟨T4, X4, q4, st4⟩ := X2.hget hexec hown (wk W (.fieldLink "java/lang/String" 15 "java/lang/String" "coder" "B")) (hx.mv X2.warmed.alike hh2) (g := (mkF m 7 #[.val (.ref x)] [.ref x])) rfl (rest := []) rfl (hb hbytes d7)
  have c5 : Steps p.tables e below (s₁.setTop (entryFrame m #[.ref x] 1)) (T4.setTop (mkF m 14 #[.val (.ref x)] [.int cd])) := (c3.trans (st4 _ (Steps.refl _))).trans (by
    refine XS.goto X4.here hexec rfl (pc0 := 10) rfl (hb hbytes d10) (by decide) rfl ?_
    exact Steps.refl _)
  exact ⟨T4, some (.int cd), _, _, _, X4, rfl, rfl, rfl, (fun h => by cases h), ⟨rfl, q4.trans hh2⟩, fun fs hl => c5.trans (X4.ireturnOut hexec hret (by rcases hc with rfl | rfl <;> rfl) (Or.inr (Or.inr (Or.inl rfl))) (hb hbytes d14) hl)⟩
end Cdr
namespace Len
def yN : MethodName := ⟨"java/lang/String", "length", "()I"⟩
abbrev yB : ByteArray := jdk_42_method_54_code
theorem d0 : decode yB 0 = .ok (.aload_n 0, 1) := by decide +kernel
theorem d1 : decode yB 1 = .ok (.getfield 9, 3) := by decide +kernel
theorem d4 : decode yB 4 = .ok (.arraylength, 1) := by decide +kernel
theorem d5 : decode yB 5 = .ok (.aload_n 0, 1) := by decide +kernel
theorem d6 : decode yB 6 = .ok (.invokevirtual 335, 3) := by decide +kernel
theorem d9 : decode yB 9 = .ok (.ishr, 1) := by decide +kernel
theorem d10 : decode yB 10 = .ok (.ireturn, 1) := by decide +kernel
def site : List Cond := [.fieldLink "java/lang/String" 9 "java/lang/String" "value" "[B", Cdr.tab] ++ virtW "java/lang/String" 335 "java/lang/String" Cdr.yN Cdr.yN
def tab : Cond := tabOf yN yB 1 (some .int) site
def P (x t : Addr) (V : Cell) (cd : Int32) (n : Nat) (f : Nat → Int32) (z : Int32) (args : Array Value) (s : State) : Prop := args = #[.ref x] ∧ Txt x t V cd n f s ∧ StaticIs s "java/lang/String" "COMPACT_STRINGS" "Z" (.int z) ∧ ¬ z = 0
def E (n : Nat) (r : Option Value) (s u : State) : Prop := XT.PureE (some (.int (Int32.ofNat n))) r s u
/-- length() of a String of n chars, in either coding -/
theorem law (l : Launch) (x t : Addr) (V : Cell) (cd : Int32) (n : Nat) (f : Nat → Int32) (z : Int32) : Law l yN 1 0 1 13 yB 1 (some .int) site (P x t V cd n f z) (E n) [] 0 0 := by
  refine Law.of_walk (plainFor_of_name (by decide +kernel)) (by decide +kernel) (by decide +kernel) (by decide) (fun _ _ h => by rw [h.1]; rfl) (fun _ U U' hal hh h => ⟨h.1, h.2.1.mv hal hh, h.2.2.1.there hal hh, h.2.2.2⟩) (fun r U U' V V' h1 hal h2 h => XT.PureE.mv r U U' V V' h1 hal h2 h) ?_
  intro p e s m args below meth c s₁ X0 hexec hbytes hml hret hlk hnm hown hh0 W hP
  obtain ⟨rfl, hx, s1, hz⟩ := hP
  have v31 := hx.2.2.2.1.2.2.2
  have c1 : Steps p.tables e below (s₁.setTop (entryFrame m #[.ref x] 1)) (s₁.setTop (mkF m 1 #[.val (.ref x)] [.ref x])) := Steps.trans (entry rfl) (by
    show Steps p.tables e below (s₁.setTop (mkF m 0 #[.val (.ref x)] [])) _
    refine XS.aloadN X0.here hexec rfl (hb hbytes d0) rfl rfl ?_
    exact Steps.refl _)
  obtain ⟨T2, X2, q2, st2⟩ := X0.hget hexec hown (wk W (.fieldLink "java/lang/String" 9 "java/lang/String" "value" "[B")) (hx.mv X0.warmed.alike hh0).2.1 (g := (mkF m 1 #[.val (.ref x)] [.ref x])) rfl (rest := []) rfl (hb hbytes d1)
  have hh2 := q2.trans hh0
  have hx2 := hx.mv X2.warmed.alike hh2
  have c3 : Steps p.tables e below (s₁.setTop (entryFrame m #[.ref x] 1)) (T2.setTop (mkF m 6 #[.val (.ref x)] [.ref x, .int (Int32.ofNat V.slots.size)])) := (c1.trans (st2 _ (Steps.refl _))).trans (by
    refine X2.alen hexec hx2.2.2.2.1 rfl rfl (hb hbytes d4) ?_
    refine XS.aloadN X2.here hexec rfl (hb hbytes d5) rfl rfl ?_
    exact Steps.refl _)
  obtain ⟨v4, T4, X4, E4, g4⟩ := X2.callV hexec (Cdr.law l x cd z) hown (wks W (virtW "java/lang/String" 335 "java/lang/String" Cdr.yN Cdr.yN)) rfl (by decide) (wk W Cdr.tab) (W := 1) (Nat.le_of_ble_eq_true rfl) (Nat.le_of_ble_eq_true rfl) (Nat.le_refl _) (Nat.le_refl _) (hx2.1.fc X2.warmed.alike) hx2.1.is (g := (mkF m 6 #[.val (.ref x)] [.ref x, .int (Int32.ofNat V.slots.size)])) rfl (by rw [hml]; rfl) c3 (argsL := []) (rest := [.int (Int32.ofNat V.slots.size)]) rfl rfl (by show 2 * 0 + (1 + 0) ≤ _; decide) (hb hbytes d6) (⟨rfl, hx2.2.2.1, hx.2.2.2.2.1.cd, s1.there X2.warmed.alike hh2, hz⟩)
  obtain ⟨rfl, q4⟩ := E4
  have c5 : Steps p.tables e below (s₁.setTop (entryFrame m #[.ref x] 1)) (T4.setTop (mkF m 10 #[.val (.ref x)] [.int (Int32.ofNat V.slots.size >>> (cd &&& 31))])) := Steps.trans g4 (by
    refine ishr X4.here hexec rfl (hb hbytes d9) rfl ?_
    exact Steps.refl _)
  rw [hx.2.2.2.2.1.len v31] at c5
  exact ⟨T4, some (.int (Int32.ofNat n)), _, _, _, X4, rfl, rfl, rfl, (fun h => by cases h), ⟨rfl, q4.trans hh2⟩, fun fs hl => c5.trans (X4.ireturnOut hexec hret rfl (Or.inl rfl) (hb hbytes d10) hl)⟩
theorem pays {l : Launch} {R : Room} {p : Program} {e : Env} {below : List Frame} {s : State} {sargs : Array Value} {len W : Nat} (x t : Addr) (V : Cell) (cd : Int32) (n : Nat) (f : Nat → Int32) (z : Int32) (htab : tab.before sargs s = true) (hfr : 2 ≤ R.frames) (hlo : W + 25 ≤ R.locals) :
    Back l R p e below s sargs yN len W (fun A₁ a₁ => A₁.cells + 0 ≤ R.cells ∧ A₁.slots + 0 ≤ R.slots ∧ P x t V cd n f z a₁ A₁.U) (fun A₁ _ v₁ B₁ => E n v₁ A₁.U B₁.U ∧ B₁.locs = A₁.locs ++ [] ∧ B₁.cells = A₁.cells + 0 ∧ B₁.slots = A₁.slots + 0) :=
  (law l x t V cd n f z).pays htab hfr (by omega)
end Len
end StrChars
namespace StrChars.Road
open Jvm Sem ClassFile Op Lib Jvm.Stand Jvm.Free Jvm.Free.XT
open Jvm.Lib.Cold (StaticIs)
theorem consq {a : Array Value} {s : State} {c : Jvm.Cond} {L : List Jvm.Cond} (h0 : c.before a s = true) (h : ∀ w ∈ L, w.before a s = true) : ∀ w ∈ c :: L, w.before a s = true := fun w hw => (List.mem_cons.mp hw).elim (fun e => e ▸ h0) (h w)
/-- the words of String.length(), either coding -/
abbrev wordsLen : List Jvm.Cond := [.code Len.yN Len.yB 1 (some .int), .initialized ST, .fieldLink ST 9 ST "value" "[B", .fieldLink ST 38 ST "COMPACT_STRINGS" "Z", .fieldLink ST 15 ST "coder" "B", .code Cdr.yN Cdr.yB 1 (some .byte), .methodLink ST 335 Cdr.yN, .declares Cdr.yN, .selects ST Cdr.yN Cdr.yN, .instanceMethod Cdr.yN]
theorem tabLen_of {a : Array Value} {s : State} (h : ∀ w ∈ wordsLen, w.before a s = true) : Len.tab.before a s = true := by
  have hc : Cdr.tab.before a s = true := unparts (wk h (.code Cdr.yN Cdr.yB 1 (some .byte))) (wks h (.initialized Cdr.yN.cls :: Cdr.site))
  have q := consq hc h
  exact unparts (wk q (.code Len.yN Len.yB 1 (some .int))) (wks q (.initialized Len.yN.cls :: Len.site))
theorem movedLen {Z s : State} {a0 args : Array Value} (hZ : Z.Warmed39 s.vm) (hw : ∀ d ∈ wordsLen, d.before a0 Z = true) : ∀ d ∈ wordsLen, d.before args s = true := fun d hd => by
  have q := hw d hd
  have t : ∀ d ∈ wordsLen, d = .arrayClass .byte ∨ (d.onTables && d.keepsFace) = true := by decide +kernel
  rcases t d hd with rfl | t
  · exact RoadKit.mvA hZ q
  · exact RoadKit.mv hZ q t
/-- the bytes of the chars cs, low before high -/
def wideBytes : List Int32 → List Value
  | [] => []
  | c :: cs => .int (lo8 c) :: .int (hi8 c) :: wideBytes cs
theorem wide_lo (d : Value) : ∀ (cs : List Int32) (j : Nat), j < cs.length → (wideBytes cs).getD (2 * j) d = .int (lo8 (cs.getD j 0))
  | [], j, h => absurd h (Nat.not_lt_zero j)
  | c :: cs, 0, _ => rfl
  | c :: cs, j + 1, h => by
    have q := wide_lo d cs j (by simpa using h)
    rw [show 2 * (j + 1) = 2 * j + 1 + 1 from by omega]
    simpa [wideBytes] using q
theorem wide_hi (d : Value) : ∀ (cs : List Int32) (j : Nat), j < cs.length → (wideBytes cs).getD (2 * j + 1) d = .int (hi8 (cs.getD j 0))
  | [], j, h => absurd h (Nat.not_lt_zero j)
  | c :: cs, 0, _ => rfl
  | c :: cs, j + 1, h => by
    have q := wide_hi d cs j (by simpa using h)
    rw [show 2 * (j + 1) + 1 = 2 * j + 1 + 1 + 1 from by omega]
    simpa [wideBytes] using q
theorem low_at (d : Value) (cs : List Int32) (j : Nat) (h : j < cs.length) : (cs.map fun c => Value.int (lo8 c)).getD j d = .int (lo8 (cs.getD j 0)) := by
  simp [List.getD_eq_getElem?_getD, h]
/-- an array of N2 bytes vs codes the chars cs by the coder cd -/
def CodA (cs : List Int32) (cd N2 : Int32) (vs : List Value) : Prop := (cd = 0 ∧ N2 = Int32.ofNat cs.length ∧ vs = (cs.map fun c => Value.int (lo8 c)) ∧ ∀ c ∈ cs, ¬ 255 < c) ∨ (cd = 1 ∧ N2 = Int32.ofNat (2 * cs.length) ∧ vs = wideBytes cs ∧ ∃ c ∈ cs, 255 < c)
theorem CodA.cod {cs : List Int32} {cd N2 : Int32} {vs : List Value} {V : Cell} (h : CodA cs cd N2 vs) (hn : 2 * cs.length < 2 ^ 31) (hs : V.slots.size = N2.toNatClampNeg) (hv : RoadKit.Has V vs (.int 0)) : Cod cd cs.length (fun j => cs.getD j 0) V := by
  rcases h with ⟨rfl, rfl, rfl, h⟩ | ⟨rfl, rfl, rfl, c, hc, hw⟩
  · rw [n32 (by omega)] at hs
    exact Or.inl ⟨rfl, hs, fun j hj => ⟨by rw [hv j (by omega), low_at _ _ _ hj], by
      have e : cs.getD j 0 = cs[j] := by simp [List.getD_eq_getElem?_getD, hj]
      show ¬ 255 < cs.getD j 0
      rw [e]; exact h _ (List.getElem_mem _)⟩⟩
  · rw [n32 (by omega)] at hs
    obtain ⟨j, hj, rfl⟩ := List.getElem_of_mem hc
    exact Or.inr ⟨rfl, hs, fun j hj => ⟨by rw [hv _ (by omega), wide_lo _ _ _ hj], by rw [hv _ (by omega), wide_hi _ _ _ hj]⟩, j, hj, by
      have e : cs.getD j 0 = cs[j] := by simp [List.getD_eq_getElem?_getD, hj]
      show 255 < cs.getD j 0
      rw [e]; exact hw⟩
/-- an object of exactly java/lang/String, its two fields found: as the laws ask it -/
theorem strObj {Z U : State} {a0 : Array Value} {kI : Nat} (wi : (Jvm.Cond.instantiable ST kI).before a0 Z = true) (al : Z.vm.Alike U.vm) {x : Addr} {v0 c0 : Value} (E : RoadKit.Exa Z U.heap x ST) (V : RoadKit.Fld Z U.heap x ST "value" "[B" v0) (C : RoadKit.Fld Z U.heap x ST "coder" "B" c0) :
    ∃ (D : Cell) (fV fC : Field), Blank ST x D U ∧ Found ST "value" "[B" fV U ∧ Found ST "coder" "B" fC U ∧ D.slots[fV.slot]? = some v0 ∧ D.slots[fC.slot]? = some c0 ∧ RoadKit.slotOf Z ST "value" "[B" = fV.slot ∧ RoadKit.slotOf Z ST "coder" "B" = fC.slot := by
  obtain ⟨D, cfV, kV, iV, fV, hD, gV, stV, knV, obV, asV, slV⟩ := V
  obtain ⟨D', cfC, kC, iC, fC, hD', gC, stC, -, -, asC, slC⟩ := C
  cases hD.symm.trans hD'
  obtain ⟨D2, kD, e1, e2, e3, e4, e5⟩ := E
  cases hD.symm.trans e1
  obtain ⟨c2, k2, i1, i2, i3, -⟩ := Cond.instantiable_spec wi
  cases e2.symm.trans i1
  cases e3.symm.trans i2
  obtain ⟨kU, u1, u2⟩ := al.2.2 _ _ e3
  exact ⟨D, fV, fC, ⟨hD, ⟨knV, fun q hq => by rw [hq] at obV; cases obV⟩, by rw [al.findClass]; exact e2, kU, u1, by rw [u2]; exact i3, by rw [u2]; exact e5 i3⟩, ⟨SBG.found_only al ⟨cfV, kV, iV, gV⟩, stV⟩, ⟨SBG.found_only al ⟨cfC, kC, iC, gC⟩, stC⟩, slV, slC, by simp [RoadKit.slotOf, gV], by simp [RoadKit.slotOf, gC]⟩
theorem sta_is {Z U : State} (al : Z.vm.Alike U.vm) {C n d : String} {v : Value} (S : RoadKit.Sta Z U.heap C n d v) : StaticIs U C n d v := by
  obtain ⟨cfS, iS, kS, fS, st, cS, t1, t2, t3, t4, t5, t6, t7⟩ := S
  exact StaticIs.there (s := { Z with heap := U.heap }) ⟨cfS, iS, kS, fS, st, cS, t1, t2, t3, t4, t5, (fun q => by rw [q] at t6; cases t6), t7⟩ al rfl
/-- **length() OF SUCH A STRING** -/
theorem lenW {p : Program} {l : Launch} {e : Env} {R : Room} {s : State} {args : Array Value} {below : List Frame} {len W : Nat} {Z : State} {a0 : Array Value} {h : Heap} (hZ : Z.Warmed39 s.vm) (hw : ∀ d ∈ wordsLen, d.before a0 Z = true) {kI : Nat} (wi : (Jvm.Cond.instantiable ST kI).before a0 Z = true)
    {x t : Addr} {kb : ClassId} {cs : List Int32} {cd N2 z : Int32} {vs : List Value} (E : RoadKit.Exa Z h x ST) (V : RoadKit.Fld Z h x ST "value" "[B" (.ref t)) (C : RoadKit.Fld Z h x ST "coder" "B" (.int cd)) (K : RoadKit.Arv Z h t kb .byte N2 vs (.int 0)) (hc : CodA cs cd N2 vs) (hb : ∀ c ∈ cs, ¬ c < 0 ∧ ¬ (65535 : Int32) < c)
    (S : RoadKit.Sta Z h ST "COMPACT_STRINGS" "Z" (.int z)) (hz : ¬ z = 0) (l2 : cs.length ≤ 4000) (hfr : 2 ≤ R.frames) (hlo : W + 25 ≤ R.locals) :
    Back l R p e below s args (⟨"java/lang/String", "length", "()I"⟩ : MethodName) len W (fun P a => a = #[.ref x] ∧ P.U.heap = h ∧ P.cells + 0 ≤ R.cells ∧ P.slots + 0 ≤ R.slots)
      (fun P _ v B => ∃ L, (v = some (.int (Int32.ofNat cs.length)) ∧ L = [] ∧ B.U.heap = h) ∧ B.locs = P.locs ++ L ∧ B.cells = P.cells + 0 ∧ B.slots = P.slots + 0) := by
  obtain ⟨A, K1, K2, K3, K4, K5, K6⟩ := K
  have hcod := hc.cod (by omega) K3 K5
  intro m meth c P g ig mk a X hg hsize hdg hW hn hp'
  obtain ⟨rfl, rfl, r1, r2⟩ := hp'
  have al : Z.vm.Alike P.U.vm := hZ.alike.trans X.warmed.alike
  obtain ⟨D, fV, fC, hB, F1, F2, g1, g2, -, -⟩ := strObj wi al E V C
  have hx : Txt x t A cd cs.length (fun j => cs.getD j 0) P.U := ⟨⟨_, hB.2.2.1, D, hB.1, rfl, by cases q : D.vm <;> first | rfl | exact absurd q (hB.2.1.2 _)⟩, Has.of hB F1 g1, Has.of hB F2 g2, ⟨K1.1, State.isArrayOf_alike al K1.2.1, K1.2.2, by rcases hcod with ⟨-, q, -⟩ | ⟨-, q, -⟩ <;> omega⟩, hcod, fun j hj => by
    have e : cs.getD j 0 = cs[j] := by simp [List.getD_eq_getElem?_getD, hj]
    show ¬ cs.getD j 0 < 0 ∧ ¬ 65535 < cs.getD j 0
    rw [e]; exact hb _ (List.getElem_mem _)⟩
  obtain ⟨v, B, X', ⟨⟨hv, hh⟩, hl, hk, hs⟩, st⟩ := Len.pays x t A cd cs.length (fun j => cs.getD j 0) z (tabLen_of (movedLen hZ hw)) hfr hlo m meth c P g ig mk _ X hg hsize hdg hW hn ⟨r1, r2, rfl, hx, sta_is al S, hz⟩
  exact ⟨v, B, X', ⟨[], ⟨hv, rfl, hh⟩, hl, hk, hs⟩, st⟩
end StrChars.Road
namespace StrChars
open Jvm Sem ClassFile Op Lib Jvm.Stand Jvm.Free.XT Jvm.Free.ALB Jvm.Free.JM Jvm.Free
open Jvm.Lib.Cold (StaticIs)
/-- what place i of a byte[]'s cell holds -/
def yv (A : Cell) (i : Nat) : Int32 := match A.slots[i]? with | some (.int x) => x | _ => 0
theorem yv_get {a : Addr} {A : Cell} {U : State} (h : XT.Arr .byte a A U) (ht : Typed .byte A) {i : Nat} (hi : i < A.slots.size) : A.slots[i]? = some (.int (yv A i)) := by
  have e := Array.getElem?_eq_getElem hi
  have f := ht i _ e
  unfold yv; rw [e]
  generalize A.slots[i] = v at f
  cases v <;> simp [fits] at f ⊢
/-- the two arrays are equal, place for place -/
def EqC (A B : Cell) : Prop := A.slots.size = B.slots.size ∧ ∀ i, i < A.slots.size → yv A i = yv B i
/-- a boolean that says whether p -/
def Says01 (q : Prop) (r : Option Value) (s u : State) : Prop := ∃ v : Int32, r = some (.int v) ∧ u.heap = s.heap ∧ ((v = 1 ∧ q) ∨ (v = 0 ∧ ¬ q))
theorem Says01.mv {q : Prop} : ∀ r (U U' V V' : State), U'.heap = U.heap → V.vm.Alike V'.vm → V'.heap = V.heap → Says01 q r U V → Says01 q r U' V' :=
  fun r U U' V V' h1 _ h2 ⟨v, a, b, c⟩ => ⟨v, a, by rw [h1, h2]; exact b, c⟩
namespace LEq
def yN : MethodName := ⟨"java/lang/StringLatin1", "equals", "([B[B)Z"⟩
abbrev yB : ByteArray := jdk_43_method_13_code
theorem d0 : decode yB 0 = .ok (.aload_n 0, 1) := by decide +kernel
theorem d1 : decode yB 1 = .ok (.arraylength, 1) := by decide +kernel
theorem d2 : decode yB 2 = .ok (.aload_n 1, 1) := by decide +kernel
theorem d3 : decode yB 3 = .ok (.arraylength, 1) := by decide +kernel
theorem d4 : decode yB 4 = .ok (.if_icmp (.ne) 30, 3) := by decide +kernel
theorem d7 : decode yB 7 = .ok (.iconst 0, 1) := by decide +kernel
theorem d8 : decode yB 8 = .ok (.istore_n 2, 1) := by decide +kernel
theorem d9 : decode yB 9 = .ok (.iload_n 2, 1) := by decide +kernel
theorem d10 : decode yB 10 = .ok (.aload_n 0, 1) := by decide +kernel
theorem d11 : decode yB 11 = .ok (.arraylength, 1) := by decide +kernel
theorem d12 : decode yB 12 = .ok (.if_icmp (.ge) 20, 3) := by decide +kernel
theorem d15 : decode yB 15 = .ok (.aload_n 0, 1) := by decide +kernel
theorem d16 : decode yB 16 = .ok (.iload_n 2, 1) := by decide +kernel
theorem d17 : decode yB 17 = .ok (.baload, 1) := by decide +kernel
theorem d18 : decode yB 18 = .ok (.aload_n 1, 1) := by decide +kernel
theorem d19 : decode yB 19 = .ok (.iload_n 2, 1) := by decide +kernel
theorem d20 : decode yB 20 = .ok (.baload, 1) := by decide +kernel
theorem d21 : decode yB 21 = .ok (.if_icmp (.eq) 5, 3) := by decide +kernel
theorem d24 : decode yB 24 = .ok (.iconst 0, 1) := by decide +kernel
theorem d25 : decode yB 25 = .ok (.ireturn, 1) := by decide +kernel
theorem d26 : decode yB 26 = .ok (.iinc 2 1, 3) := by decide +kernel
theorem d29 : decode yB 29 = .ok (.goto (-20), 3) := by decide +kernel
theorem d32 : decode yB 32 = .ok (.iconst 1, 1) := by decide +kernel
theorem d33 : decode yB 33 = .ok (.ireturn, 1) := by decide +kernel
theorem d34 : decode yB 34 = .ok (.iconst 0, 1) := by decide +kernel
theorem d35 : decode yB 35 = .ok (.ireturn, 1) := by decide +kernel
def site : List Cond := []
def tab : Cond := tabOf yN yB 3 (some .boolean) site
def P (a : Addr) (A : Cell) (b : Addr) (B : Cell) (args : Array Value) (s : State) : Prop := args = #[.ref a, .ref b] ∧ XT.Arr .byte a A s ∧ Typed .byte A ∧ XT.Arr .byte b B s ∧ Typed .byte B
/-- whether two byte[] are equal, place for place -/
theorem law (l : Launch) (a : Addr) (A : Cell) (b : Addr) (B : Cell) : Law l yN 2 2 0 0 yB 3 (some .boolean) site (P a A b B) (Says01 (EqC A B)) [] 0 0 := by
  refine Law.of_walk (plainFor_of_name (by decide +kernel)) (by decide +kernel) (by decide +kernel) (by decide) (fun _ _ h => by rw [h.1]; rfl) (fun _ U U' hal hh h => ⟨h.1, h.2.1.mv hal hh, h.2.2.1, h.2.2.2.1.mv hal hh, h.2.2.2.2⟩) (fun r U U' V V' h1 hal h2 h => Says01.mv r U U' V V' h1 hal h2 h) ?_
  intro p e s m args below meth c s₁ X0 hexec hbytes hml hret hlk hnm hown hh0 W hP
  obtain ⟨rfl, hA, tA, hB, tB⟩ := hP
  have a31 := hA.2.2.2
  have b31 := hB.2.2.2
  have hA0 := hA.mv X0.warmed.alike hh0
  have hB0 := hB.mv X0.warmed.alike hh0
  have c1 : Steps p.tables e below (s₁.setTop (entryFrame m #[.ref a, .ref b] 3)) (s₁.setTop (mkF m 0 #[.val (.ref a), .val (.ref b), .unset] [])) := entry rfl
  have c2 : Steps p.tables e below (s₁.setTop (entryFrame m #[.ref a, .ref b] 3)) (s₁.setTop (mkF m 4 #[.val (.ref a), .val (.ref b), .unset] [.int (Int32.ofNat B.slots.size), .int (Int32.ofNat A.slots.size)])) := c1.trans (by
    refine XS.aloadN X0.here hexec rfl (hb hbytes d0) rfl rfl ?_
    refine X0.alen hexec hA0 rfl rfl (hb hbytes d1) ?_
    refine XS.aloadN X0.here hexec rfl (hb hbytes d2) rfl rfl ?_
    refine X0.alen hexec hB0 rfl rfl (hb hbytes d3) ?_
    exact Steps.refl _)
  by_cases hs : A.slots.size = B.slots.size
  · have c3 : Steps p.tables e below (s₁.setTop (entryFrame m #[.ref a, .ref b] 3)) (s₁.setTop (mkF m 9 #[.val (.ref a), .val (.ref b), .val (.int 0)] [])) := c2.trans (by
      refine XS.icmpNo X0.here hexec rfl (hb hbytes d4) rfl (ii_ne_f (by rw [hs])) ?_
      refine iconstV X0.here hexec rfl 0 (hb hbytes d7) (by decide) ?_
      refine XS.istoreN X0.here hexec rfl (hb hbytes d8) rfl rfl ?_
      exact Steps.refl _)
    have loop : ∀ (r i : Nat), i + r = A.slots.size → (∀ j, j < i → yv A j = yv B j) → Steps p.tables e below (s₁.setTop (entryFrame m #[.ref a, .ref b] 3)) (s₁.setTop (mkF m 9 #[.val (.ref a), .val (.ref b), .val (.int (Int32.ofNat i))] [])) → ∃ (pc : Nat) (Ls : Array Slot) (v : Int32), (pc = 25 ∨ pc = 33) ∧ ((v = 1 ∧ EqC A B) ∨ (v = 0 ∧ ¬ EqC A B)) ∧ Steps p.tables e below (s₁.setTop (entryFrame m #[.ref a, .ref b] 3)) (s₁.setTop (mkF m pc Ls [.int v])) := by
      intro r
      induction r with
      | zero =>
        intro i hi he cl
        exact ⟨33, _, 1, Or.inr rfl, Or.inl ⟨rfl, hs, fun j hj => he j (by omega)⟩, cl.trans (by
          refine XS.iloadN X0.here hexec rfl (hb hbytes d9) rfl ?_
          refine XS.aloadN X0.here hexec rfl (hb hbytes d10) rfl rfl ?_
          refine X0.alen hexec hA0 rfl rfl (hb hbytes d11) ?_
          refine XS.icmpYes X0.here hexec rfl (pc0 := 12) rfl (hb hbytes d12) rfl (ii_ge_t (nlt32 (by omega) (by omega))) (by decide) rfl ?_
          refine iconstV X0.here hexec rfl 1 (hb hbytes d32) (by decide) ?_
          exact Steps.refl _)⟩
      | succ r ih =>
        intro i hi he cl
        have c4 : Steps p.tables e below (s₁.setTop (entryFrame m #[.ref a, .ref b] 3)) (s₁.setTop (mkF m 21 #[.val (.ref a), .val (.ref b), .val (.int (Int32.ofNat i))] [.int (yv B i), .int (yv A i)])) := cl.trans (by
          refine XS.iloadN X0.here hexec rfl (hb hbytes d9) rfl ?_
          refine XS.aloadN X0.here hexec rfl (hb hbytes d10) rfl rfl ?_
          refine X0.alen hexec hA0 rfl rfl (hb hbytes d11) ?_
          refine XS.icmpNo X0.here hexec rfl (hb hbytes d12) rfl (ii_ge_f (lt32 (by omega) (by omega))) ?_
          refine XS.aloadN X0.here hexec rfl (hb hbytes d15) rfl rfl ?_
          refine XS.iloadN X0.here hexec rfl (hb hbytes d16) rfl ?_
          refine X0.aget hexec hA0 rfl (yv_get hA tA (i := i) (by omega)) rfl rfl (hb hbytes d17) ?_
          refine XS.aloadN X0.here hexec rfl (hb hbytes d18) rfl rfl ?_
          refine XS.iloadN X0.here hexec rfl (hb hbytes d19) rfl ?_
          refine X0.aget hexec hB0 rfl (yv_get hB tB (i := i) (by omega)) rfl rfl (hb hbytes d20) ?_
          exact Steps.refl _)
        by_cases hv : yv A i = yv B i
        · have c5 : Steps p.tables e below (s₁.setTop (entryFrame m #[.ref a, .ref b] 3)) (s₁.setTop (mkF m 9 #[.val (.ref a), .val (.ref b), .val (.int (Int32.ofNat i + 1))] [])) := c4.trans (by
            refine XS.icmpYes X0.here hexec rfl (pc0 := 21) rfl (hb hbytes d21) rfl (ii_eq_t hv) (by decide) rfl ?_
            refine iincV X0.here hexec rfl 1 (hb hbytes d26) (by decide) rfl rfl ?_
            refine XS.goto X0.here hexec rfl (pc0 := 29) rfl (hb hbytes d29) (by decide) rfl ?_
            exact Steps.refl _)
          rw [succ32] at c5
          exact ih (i + 1) (by omega) (fun j hj => by
            by_cases e : j = i
            · rw [e]; exact hv
            · exact he j (by omega)) c5
        · exact ⟨25, _, 0, Or.inl rfl, Or.inr ⟨rfl, fun q => hv (q.2 i (by omega))⟩, c4.trans (by
            refine XS.icmpNo X0.here hexec rfl (hb hbytes d21) rfl (ii_eq_f hv) ?_
            refine iconstV X0.here hexec rfl 0 (hb hbytes d24) (by decide) ?_
            exact Steps.refl _)⟩
    obtain ⟨pc, Ls, v, hpc, hv, cz⟩ := loop A.slots.size 0 (by omega) (fun j hj => absurd hj (Nat.not_lt_zero j)) c3
    have nv : narrow .boolean (.int v) = .int v := by rcases hv with ⟨rfl, -⟩ | ⟨rfl, -⟩ <;> rfl
    rcases hpc with rfl | rfl
    · exact ⟨s₁, some (.int v), _, _, _, X0, rfl, rfl, rfl, (fun h => by cases h), ⟨v, rfl, hh0, hv⟩, fun fs hl => cz.trans (X0.ireturnOut hexec hret nv (Or.inr (Or.inl rfl)) (hb hbytes d25) hl)⟩
    · exact ⟨s₁, some (.int v), _, _, _, X0, rfl, rfl, rfl, (fun h => by cases h), ⟨v, rfl, hh0, hv⟩, fun fs hl => cz.trans (X0.ireturnOut hexec hret nv (Or.inr (Or.inl rfl)) (hb hbytes d33) hl)⟩
  · have c3 : Steps p.tables e below (s₁.setTop (entryFrame m #[.ref a, .ref b] 3)) (s₁.setTop (mkF m 35 #[.val (.ref a), .val (.ref b), .unset] [.int 0])) := c2.trans (by
      refine XS.icmpYes X0.here hexec rfl (pc0 := 4) rfl (hb hbytes d4) rfl (ii_ne_t (ne32 a31 b31 hs)) (by decide) rfl ?_
      refine iconstV X0.here hexec rfl 0 (hb hbytes d34) (by decide) ?_
      exact Steps.refl _)
    exact ⟨s₁, some (.int 0), _, _, _, X0, rfl, rfl, rfl, (fun h => by cases h), ⟨0, rfl, hh0, Or.inr ⟨rfl, fun q => hs q.1⟩⟩, fun fs hl => c3.trans (X0.ireturnOut hexec hret rfl (Or.inr (Or.inl rfl)) (hb hbytes d35) hl)⟩
end LEq
theorem Cod.ty {cd : Int32} {n : Nat} {f : Nat → Int32} {V : Cell} (h : Cod cd n f V) : Typed .byte V := fun i v hv => by
  have hi : i < V.slots.size := (Array.getElem?_eq_some_iff.mp hv).1
  rcases h with ⟨-, k1, k2⟩ | ⟨-, k1, k2, -⟩
  · rw [(k2 i (by omega)).1] at hv; cases hv; exact fits_lo8 _
  · rcases Nat.mod_two_eq_zero_or_one i with e | e
    · obtain ⟨j, rfl⟩ : ∃ j, i = 2 * j := ⟨i / 2, by omega⟩
      rw [(k2 j (by omega)).1] at hv; cases hv; exact fits_lo8 _
    · obtain ⟨j, rfl⟩ : ∃ j, i = 2 * j + 1 := ⟨i / 2, by omega⟩
      rw [(k2 j (by omega)).2] at hv; cases hv; exact fits_lo8 _
/-- the same text -/
def SameT (n : Nat) (f : Nat → Int32) (k : Nat) (g : Nat → Int32) : Prop := n = k ∧ ∀ j, j < n → f j = g j
theorem lo8_inj {x y : Int32} (h0 : ¬ x < 0) (h1 : ¬ 255 < x) (k0 : ¬ y < 0) (k1 : ¬ 255 < y) (h : lo8 x = lo8 y) : x = y := by
  rw [← lo8_mask h0 h1, ← lo8_mask k0 k1, h]
/-- arrays coded by one coder are equal just where the texts are -/
theorem Cod.eqv {cd : Int32} {n k : Nat} {f g : Nat → Int32} {V V' : Cell} (h : Cod cd n f V) (h' : Cod cd k g V') (hf : ∀ j, j < n → ¬ f j < 0 ∧ ¬ 65535 < f j) (hg : ∀ j, j < k → ¬ g j < 0 ∧ ¬ 65535 < g j) : EqC V V' ↔ SameT n f k g := by
  have yvv : ∀ {W : Cell} {i : Nat} {x : Int32}, W.slots[i]? = some (.int x) → yv W i = x := fun q => by unfold yv; rw [q]
  rcases h with ⟨rfl, k1, k2⟩ | ⟨rfl, k1, k2, -⟩
  · rcases h' with ⟨-, m1, m2⟩ | ⟨e, -⟩
    · constructor
      · rintro ⟨e1, e2⟩
        refine ⟨by omega, fun j hj => ?_⟩
        have q := e2 j (by omega)
        rw [yvv (k2 j hj).1, yvv (m2 j (by omega)).1] at q
        exact lo8_inj (hf j hj).1 (k2 j hj).2 (hg j (by omega)).1 (m2 j (by omega)).2 q
      · rintro ⟨rfl, e2⟩
        refine ⟨by omega, fun j hj => ?_⟩
        rw [yvv (k2 j (by omega)).1, yvv (m2 j (by omega)).1, e2 j (by omega)]
    · exact absurd e (by decide)
  · rcases h' with ⟨e, -⟩ | ⟨-, m1, m2, -⟩
    · exact absurd e (by decide)
    · constructor
      · rintro ⟨e1, e2⟩
        refine ⟨by omega, fun j hj => ?_⟩
        have q1 := e2 (2 * j) (by omega)
        have q2 := e2 (2 * j + 1) (by omega)
        rw [yvv (k2 j hj).1, yvv (m2 j (by omega)).1] at q1
        rw [yvv (k2 j hj).2, yvv (m2 j (by omega)).2] at q2
        rw [← pair_says (hf j hj).1 (hf j hj).2, ← pair_says (hg j (by omega)).1 (hg j (by omega)).2, q1, q2]
      · rintro ⟨rfl, e2⟩
        refine ⟨by omega, fun i hi => ?_⟩
        rcases Nat.mod_two_eq_zero_or_one i with e | e
        · obtain ⟨j, rfl⟩ : ∃ j, i = 2 * j := ⟨i / 2, by omega⟩
          rw [yvv (k2 j (by omega)).1, yvv (m2 j (by omega)).1, e2 j (by omega)]
        · obtain ⟨j, rfl⟩ : ∃ j, i = 2 * j + 1 := ⟨i / 2, by omega⟩
          rw [yvv (k2 j (by omega)).2, yvv (m2 j (by omega)).2, e2 j (by omega)]
/-- two codings differ: so do the texts -/
theorem Cod.dif {cd cd' : Int32} {n k : Nat} {f g : Nat → Int32} {V V' : Cell} (h : Cod cd n f V) (h' : Cod cd' k g V') (hne : ¬ cd = cd') : ¬ SameT n f k g := by
  rintro ⟨rfl, e⟩
  rcases h with ⟨rfl, -, k2⟩ | ⟨rfl, -, -, j, hj, hw⟩
  · rcases h' with ⟨rfl, -⟩ | ⟨-, -, -, j, hj, hw⟩
    · exact hne rfl
    · exact (k2 j hj).2 (by rw [e j hj]; exact hw)
  · rcases h' with ⟨-, -, m2⟩ | ⟨rfl, -⟩
    · exact (m2 j hj).2 (by rw [← e j hj]; exact hw)
    · exact hne rfl
/-- an object of exactly C is an instance of C -/
theorem cinst {p : Program} {l : Launch} {e : Env} {R : Room} {s : State} {m : MethodId} {args : Array Value} {below : List Frame} {meth : Method} {c : Code} {T : State} {locs : List Loc} {cells slots : Nat} (X : Stand p l e R s m args below meth c T locs cells slots) (hexec : p.tables.exec = Jvm.exec) {own C : String} {index : Nat} (hown : s.vm.findClass own = some m.cls) (hlink : (Cond.classLink own index C).before args s = true) {a : Addr} (hE : Exact C a T)
    {g : JFrame} (hg : g.method = m) {rest : List Value} (hstack : g.stack = .ref a :: rest) (hdg : decode c.code g.pc = .ok (.instanceof index, 3)) :
    ∃ T', Stand p l e R s m args below meth c T' locs cells slots ∧ T'.heap = T.heap ∧ ∀ target, Steps p.tables e below (T'.setTop { g with pc := g.pc + 3, stack := .int 1 :: rest }) target → Steps p.tables e below (T.setTop g) target := by
  obtain ⟨cB, h1, D, h2, h3, h4⟩ := hE
  have h1' : s.vm.findClass C = some cB := by rw [← X.warmed.alike.findClass]; exact h1
  obtain ⟨vm', X', st⟩ := X.instanceofYes hexec hown hlink h2 h4 h1' (by rw [h3]; exact Jvm.Free.SB.assignable_self _ _) hg hstack hdg
  exact ⟨_, X', rfl, st⟩
theorem cself {p : Program} {l : Launch} {e : Env} {R : Room} {s : State} {m : MethodId} {args : Array Value} {below : List Frame} {meth : Method} {c : Code} {T : State} {locs : List Loc} {cells slots : Nat} (X : Stand p l e R s m args below meth c T locs cells slots) (hexec : p.tables.exec = Jvm.exec) {own C : String} {index : Nat} (hown : s.vm.findClass own = some m.cls) (hlink : (Cond.classLink own index C).before args s = true) {a : Addr} (hE : Exact C a T)
    {g : JFrame} (hg : g.method = m) {rest : List Value} (hstack : g.stack = .ref a :: rest) (hdg : decode c.code g.pc = .ok (.checkcast index, 3)) :
    ∃ T', Stand p l e R s m args below meth c T' locs cells slots ∧ T'.heap = T.heap ∧ ∀ target, Steps p.tables e below (T'.setTop { g with pc := g.pc + 3, stack := .ref a :: rest }) target → Steps p.tables e below (T.setTop g) target := by
  obtain ⟨cB, h1, D, h2, h3, h4⟩ := hE
  have h1' : s.vm.findClass C = some cB := by rw [← X.warmed.alike.findClass]; exact h1
  obtain ⟨vm', X', st⟩ := X.checkcastYes hexec hown hlink h2 h4 h1' (by rw [h3]; exact Jvm.Free.SB.assignable_self _ _) hg hstack hdg
  exact ⟨_, X', rfl, fun t h => st t (by rw [← hstack] at h; exact h)⟩
namespace SEq
def yN : MethodName := ⟨"java/lang/String", "equals", "(Ljava/lang/Object;)Z"⟩
abbrev yB : ByteArray := jdk_42_method_66_code
theorem d0 : decode yB 0 = .ok (.aload_n 0, 1) := by decide +kernel
theorem d1 : decode yB 1 = .ok (.aload_n 1, 1) := by decide +kernel
theorem d2 : decode yB 2 = .ok (.if_acmp (.ne) 5, 3) := by decide +kernel
theorem d5 : decode yB 5 = .ok (.iconst 1, 1) := by decide +kernel
theorem d6 : decode yB 6 = .ok (.ireturn, 1) := by decide +kernel
theorem d7 : decode yB 7 = .ok (.aload_n 1, 1) := by decide +kernel
theorem d8 : decode yB 8 = .ok (.instanceof 10, 3) := by decide +kernel
theorem d11 : decode yB 11 = .ok (.ifCond (.eq) 43, 3) := by decide +kernel
theorem d14 : decode yB 14 = .ok (.aload_n 1, 1) := by decide +kernel
theorem d15 : decode yB 15 = .ok (.checkcast 10, 3) := by decide +kernel
theorem d18 : decode yB 18 = .ok (.astore_n 2, 1) := by decide +kernel
theorem d19 : decode yB 19 = .ok (.getstatic 38, 3) := by decide +kernel
theorem d22 : decode yB 22 = .ok (.ifCond (.eq) 14, 3) := by decide +kernel
theorem d25 : decode yB 25 = .ok (.aload_n 0, 1) := by decide +kernel
theorem d26 : decode yB 26 = .ok (.getfield 15, 3) := by decide +kernel
theorem d29 : decode yB 29 = .ok (.aload_n 2, 1) := by decide +kernel
theorem d30 : decode yB 30 = .ok (.getfield 15, 3) := by decide +kernel
theorem d33 : decode yB 33 = .ok (.if_icmp (.ne) 21, 3) := by decide +kernel
theorem d36 : decode yB 36 = .ok (.aload_n 0, 1) := by decide +kernel
theorem d37 : decode yB 37 = .ok (.getfield 9, 3) := by decide +kernel
theorem d40 : decode yB 40 = .ok (.aload_n 2, 1) := by decide +kernel
theorem d41 : decode yB 41 = .ok (.getfield 9, 3) := by decide +kernel
theorem d44 : decode yB 44 = .ok (.invokestatic 541, 3) := by decide +kernel
theorem d47 : decode yB 47 = .ok (.ifCond (.eq) 7, 3) := by decide +kernel
theorem d50 : decode yB 50 = .ok (.iconst 1, 1) := by decide +kernel
theorem d51 : decode yB 51 = .ok (.goto 4, 3) := by decide +kernel
theorem d54 : decode yB 54 = .ok (.iconst 0, 1) := by decide +kernel
theorem d55 : decode yB 55 = .ok (.ireturn, 1) := by decide +kernel
def site : List Cond := [.classLink "java/lang/String" 10 "java/lang/String", .fieldLink "java/lang/String" 38 "java/lang/String" "COMPACT_STRINGS" "Z", .fieldLink "java/lang/String" 15 "java/lang/String" "coder" "B", .fieldLink "java/lang/String" 9 "java/lang/String" "value" "[B", LEq.tab] ++ staticW "java/lang/String" 541 LEq.yN
def tab : Cond := tabOf yN yB 3 (some .boolean) site
def P (x t : Addr) (V : Cell) (cd : Int32) (n : Nat) (f : Nat → Int32) (y t' : Addr) (V' : Cell) (cd' : Int32) (k : Nat) (g : Nat → Int32) (z : Int32) (args : Array Value) (s : State) : Prop := args = #[.ref x, .ref y] ∧ Txt x t V cd n f s ∧ Txt y t' V' cd' k g s ∧ StaticIs s "java/lang/String" "COMPACT_STRINGS" "Z" (.int z) ∧ ¬ z = 0
/-- equals(Object) of two Strings: whether the texts are the same -/
theorem law (l : Launch) (x t : Addr) (V : Cell) (cd : Int32) (n : Nat) (f : Nat → Int32) (y t' : Addr) (V' : Cell) (cd' : Int32) (k : Nat) (g : Nat → Int32) (z : Int32) : Law l yN 2 1 1 14 yB 3 (some .boolean) site (P x t V cd n f y t' V' cd' k g z) (Says01 (SameT n f k g)) [] 0 0 := by
  refine Law.of_walk (plainFor_of_name (by decide +kernel)) (by decide +kernel) (by decide +kernel) (by decide) (fun _ _ h => by rw [h.1]; rfl) (fun _ U U' hal hh h => ⟨h.1, h.2.1.mv hal hh, h.2.2.1.mv hal hh, h.2.2.2.1.there hal hh, h.2.2.2.2⟩) (fun r U U' V V' h1 hal h2 h => Says01.mv r U U' V V' h1 hal h2 h) ?_
  intro p e s m args below meth c s₁ X0 hexec hbytes hml hret hlk hnm hown hh0 W hP
  obtain ⟨rfl, hx, hy, s1, hz⟩ := hP
  have c1 : Steps p.tables e below (s₁.setTop (entryFrame m #[.ref x, .ref y] 3)) (s₁.setTop (mkF m 2 #[.val (.ref x), .val (.ref y), .unset] [.ref y, .ref x])) := Steps.trans (entry rfl) (by
    show Steps p.tables e below (s₁.setTop (mkF m 0 #[.val (.ref x), .val (.ref y), .unset] [])) _
    refine XS.aloadN X0.here hexec rfl (hb hbytes d0) rfl rfl ?_
    refine XS.aloadN X0.here hexec rfl (hb hbytes d1) rfl rfl ?_
    exact Steps.refl _)
  by_cases hxy : x = y
  · have c2 : Steps p.tables e below (s₁.setTop (entryFrame m #[.ref x, .ref y] 3)) (s₁.setTop (mkF m 6 #[.val (.ref x), .val (.ref y), .unset] [.int 1])) := c1.trans (by
      refine acmpNo X0.here hexec rfl (hb hbytes d2) rfl rfl rfl (by simp [acmp, hxy]) ?_
      refine iconstV X0.here hexec rfl 1 (hb hbytes d5) (by decide) ?_
      exact Steps.refl _)
    subst hxy
    have ec : cd = cd' := by
      obtain ⟨D, fd, a1, a2, a3⟩ := hx.2.2.1
      obtain ⟨D', fd', b1, b2, b3⟩ := hy.2.2.1
      cases a1.symm.trans b1
      obtain ⟨q1, q2, q3, q4⟩ := a2.1
      obtain ⟨r1, r2, r3, r4⟩ := b2.1
      cases q4.symm.trans r4
      cases a3.symm.trans b3; rfl
    have et : t = t' := by
      obtain ⟨D, fd, a1, a2, a3⟩ := hx.2.1
      obtain ⟨D', fd', b1, b2, b3⟩ := hy.2.1
      cases a1.symm.trans b1
      obtain ⟨q1, q2, q3, q4⟩ := a2.1
      obtain ⟨r1, r2, r3, r4⟩ := b2.1
      cases q4.symm.trans r4
      cases a3.symm.trans b3; rfl
    subst ec et
    have ev : V = V' := by cases hx.2.2.2.1.1.symm.trans hy.2.2.2.1.1; rfl
    subst ev
    have hs : SameT n f k g := (Cod.eqv hx.2.2.2.2.1 hy.2.2.2.2.1 hx.2.2.2.2.2 hy.2.2.2.2.2).mp ⟨rfl, fun _ _ => rfl⟩
    exact ⟨s₁, some (.int 1), _, _, _, X0, rfl, rfl, rfl, (fun h => by cases h), ⟨1, rfl, hh0, Or.inl ⟨rfl, hs⟩⟩, fun fs hl => c2.trans (X0.ireturnOut hexec hret rfl (Or.inr (Or.inl rfl)) (hb hbytes d6) hl)⟩
  · have c2 : Steps p.tables e below (s₁.setTop (entryFrame m #[.ref x, .ref y] 3)) (s₁.setTop (mkF m 8 #[.val (.ref x), .val (.ref y), .unset] [.ref y])) := c1.trans (by
      refine acmpYes X0.here hexec rfl (pc0 := 2) rfl (hb hbytes d2) rfl rfl rfl (by simp [acmp, hxy]) (by decide) rfl ?_
      refine XS.aloadN X0.here hexec rfl (hb hbytes d7) rfl rfl ?_
      exact Steps.refl _)
    obtain ⟨T3, X3, q3, st3⟩ := cinst X0 hexec hown (wk W (.classLink "java/lang/String" 10 "java/lang/String")) (hy.mv X0.warmed.alike hh0).1 (g := (mkF m 8 #[.val (.ref x), .val (.ref y), .unset] [.ref y])) rfl (rest := []) rfl (hb hbytes d8)
    have hh3 := q3.trans hh0
    have c4 : Steps p.tables e below (s₁.setTop (entryFrame m #[.ref x, .ref y] 3)) (T3.setTop (mkF m 15 #[.val (.ref x), .val (.ref y), .unset] [.ref y])) := (c2.trans (st3 _ (Steps.refl _))).trans (by
      refine XS.ifNo X3.here hexec rfl (hb hbytes d11) rfl (i0_eq_f (by decide)) ?_
      refine XS.aloadN X3.here hexec rfl (hb hbytes d14) rfl rfl ?_
      exact Steps.refl _)
    obtain ⟨T5, X5, q5, st5⟩ := cself X3 hexec hown (wk W (.classLink "java/lang/String" 10 "java/lang/String")) (hy.mv X3.warmed.alike hh3).1 (g := (mkF m 15 #[.val (.ref x), .val (.ref y), .unset] [.ref y])) rfl (rest := []) rfl (hb hbytes d15)
    have hh5 := q5.trans hh3
    have c6 : Steps p.tables e below (s₁.setTop (entryFrame m #[.ref x, .ref y] 3)) (T5.setTop (mkF m 19 #[.val (.ref x), .val (.ref y), .val (.ref y)] [])) := (c4.trans (st5 _ (Steps.refl _))).trans (by
      refine XS.astoreN X5.here hexec rfl (hb hbytes d18) rfl rfl rfl ?_
      exact Steps.refl _)
    obtain ⟨T7, X7, q7, st7⟩ := X5.sget hexec hown (wk W (.fieldLink "java/lang/String" 38 "java/lang/String" "COMPACT_STRINGS" "Z")) s1 (fun _ _ h => by rw [hh5]; exact h) (g := (mkF m 19 #[.val (.ref x), .val (.ref y), .val (.ref y)] [])) rfl (hb hbytes d19)
    have hh7 := q7.trans hh5
    have c8 : Steps p.tables e below (s₁.setTop (entryFrame m #[.ref x, .ref y] 3)) (T7.setTop (mkF m 26 #[.val (.ref x), .val (.ref y), .val (.ref y)] [.ref x])) := (c6.trans (st7 _ (Steps.refl _))).trans (by
      refine XS.ifNo X7.here hexec rfl (hb hbytes d22) rfl (i0_eq_f hz) ?_
      refine XS.aloadN X7.here hexec rfl (hb hbytes d25) rfl rfl ?_
      exact Steps.refl _)
    obtain ⟨T9, X9, q9, st9⟩ := X7.hget hexec hown (wk W (.fieldLink "java/lang/String" 15 "java/lang/String" "coder" "B")) (hx.mv X7.warmed.alike hh7).2.2.1 (g := (mkF m 26 #[.val (.ref x), .val (.ref y), .val (.ref y)] [.ref x])) rfl (rest := []) rfl (hb hbytes d26)
    have hh9 := q9.trans hh7
    have c10 : Steps p.tables e below (s₁.setTop (entryFrame m #[.ref x, .ref y] 3)) (T9.setTop (mkF m 30 #[.val (.ref x), .val (.ref y), .val (.ref y)] [.ref y, .int cd])) := (c8.trans (st9 _ (Steps.refl _))).trans (by
      refine XS.aloadN X9.here hexec rfl (hb hbytes d29) rfl rfl ?_
      exact Steps.refl _)
    obtain ⟨T11, X11, q11, st11⟩ := X9.hget hexec hown (wk W (.fieldLink "java/lang/String" 15 "java/lang/String" "coder" "B")) (hy.mv X9.warmed.alike hh9).2.2.1 (g := (mkF m 30 #[.val (.ref x), .val (.ref y), .val (.ref y)] [.ref y, .int cd])) rfl (rest := [.int cd]) rfl (hb hbytes d30)
    have hh11 := q11.trans hh9
    have c12 : Steps p.tables e below (s₁.setTop (entryFrame m #[.ref x, .ref y] 3)) (T11.setTop (mkF m 33 #[.val (.ref x), .val (.ref y), .val (.ref y)] [.int cd', .int cd])) := c10.trans (st11 _ (Steps.refl _))
    by_cases hcd : cd = cd'
    · subst hcd
      have c13 : Steps p.tables e below (s₁.setTop (entryFrame m #[.ref x, .ref y] 3)) (T11.setTop (mkF m 37 #[.val (.ref x), .val (.ref y), .val (.ref y)] [.ref x])) := c12.trans (by
        refine XS.icmpNo X11.here hexec rfl (hb hbytes d33) rfl (ii_ne_f rfl) ?_
        refine XS.aloadN X11.here hexec rfl (hb hbytes d36) rfl rfl ?_
        exact Steps.refl _)
      obtain ⟨T14, X14, q14, st14⟩ := X11.hget hexec hown (wk W (.fieldLink "java/lang/String" 9 "java/lang/String" "value" "[B")) (hx.mv X11.warmed.alike hh11).2.1 (g := (mkF m 37 #[.val (.ref x), .val (.ref y), .val (.ref y)] [.ref x])) rfl (rest := []) rfl (hb hbytes d37)
      have hh14 := q14.trans hh11
      have c15 : Steps p.tables e below (s₁.setTop (entryFrame m #[.ref x, .ref y] 3)) (T14.setTop (mkF m 41 #[.val (.ref x), .val (.ref y), .val (.ref y)] [.ref y, .ref t])) := (c13.trans (st14 _ (Steps.refl _))).trans (by
        refine XS.aloadN X14.here hexec rfl (hb hbytes d40) rfl rfl ?_
        exact Steps.refl _)
      obtain ⟨T16, X16, q16, st16⟩ := X14.hget hexec hown (wk W (.fieldLink "java/lang/String" 9 "java/lang/String" "value" "[B")) (hy.mv X14.warmed.alike hh14).2.1 (g := (mkF m 41 #[.val (.ref x), .val (.ref y), .val (.ref y)] [.ref y, .ref t])) rfl (rest := [.ref t]) rfl (hb hbytes d41)
      have hh16 := q16.trans hh14
      have c17 : Steps p.tables e below (s₁.setTop (entryFrame m #[.ref x, .ref y] 3)) (T16.setTop (mkF m 44 #[.val (.ref x), .val (.ref y), .val (.ref y)] [.ref t', .ref t])) := c15.trans (st16 _ (Steps.refl _))
      obtain ⟨v18, T18, X18, E18, g18⟩ := X16.callS hexec (LEq.law l t V t' V') hown (wks W (staticW "java/lang/String" 541 LEq.yN)) (wk W LEq.tab) (W := 0) (Nat.le_of_ble_eq_true rfl) (Nat.le_of_ble_eq_true rfl) (Nat.le_refl _) (Nat.le_refl _) (g := (mkF m 44 #[.val (.ref x), .val (.ref y), .val (.ref y)] [.ref t', .ref t])) rfl (by rw [hml]; rfl) c17 (argsL := [.ref t, .ref t']) (rest := []) rfl rfl (by show 2 * 0 + 0 ≤ _; decide) (hb hbytes d44) (⟨rfl, hx.2.2.2.1.mv X16.warmed.alike hh16, hx.2.2.2.2.1.ty, hy.2.2.2.1.mv X16.warmed.alike hh16, hy.2.2.2.2.1.ty⟩)
      obtain ⟨v, rfl, q18, hv⟩ := E18
      have iff := Cod.eqv hx.2.2.2.2.1 hy.2.2.2.2.1 hx.2.2.2.2.2 hy.2.2.2.2.2
      rcases hv with ⟨rfl, he⟩ | ⟨rfl, he⟩
      · have c19 : Steps p.tables e below (s₁.setTop (entryFrame m #[.ref x, .ref y] 3)) (T18.setTop (mkF m 55 #[.val (.ref x), .val (.ref y), .val (.ref y)] [.int 1])) := Steps.trans g18 (by
          refine XS.ifNo X18.here hexec rfl (hb hbytes d47) rfl (i0_eq_f (by decide)) ?_
          refine iconstV X18.here hexec rfl 1 (hb hbytes d50) (by decide) ?_
          refine XS.goto X18.here hexec rfl (pc0 := 51) rfl (hb hbytes d51) (by decide) rfl ?_
          exact Steps.refl _)
        exact ⟨T18, some (.int 1), _, _, _, X18, rfl, rfl, rfl, (fun h => by cases h), ⟨1, rfl, q18.trans hh16, Or.inl ⟨rfl, iff.mp he⟩⟩, fun fs hl => c19.trans (X18.ireturnOut hexec hret rfl (Or.inr (Or.inl rfl)) (hb hbytes d55) hl)⟩
      · have c19 : Steps p.tables e below (s₁.setTop (entryFrame m #[.ref x, .ref y] 3)) (T18.setTop (mkF m 55 #[.val (.ref x), .val (.ref y), .val (.ref y)] [.int 0])) := Steps.trans g18 (by
          refine XS.ifYes X18.here hexec rfl (pc0 := 47) rfl (hb hbytes d47) rfl (i0_eq_t rfl) (by decide) rfl ?_
          refine iconstV X18.here hexec rfl 0 (hb hbytes d54) (by decide) ?_
          exact Steps.refl _)
        exact ⟨T18, some (.int 0), _, _, _, X18, rfl, rfl, rfl, (fun h => by cases h), ⟨0, rfl, q18.trans hh16, Or.inr ⟨rfl, fun q => he (iff.mpr q)⟩⟩, fun fs hl => c19.trans (X18.ireturnOut hexec hret rfl (Or.inr (Or.inl rfl)) (hb hbytes d55) hl)⟩
    · have c13 : Steps p.tables e below (s₁.setTop (entryFrame m #[.ref x, .ref y] 3)) (T11.setTop (mkF m 55 #[.val (.ref x), .val (.ref y), .val (.ref y)] [.int 0])) := c12.trans (by
        refine XS.icmpYes X11.here hexec rfl (pc0 := 33) rfl (hb hbytes d33) rfl (ii_ne_t hcd) (by decide) rfl ?_
        refine iconstV X11.here hexec rfl 0 (hb hbytes d54) (by decide) ?_
        exact Steps.refl _)
      exact ⟨T11, some (.int 0), _, _, _, X11, rfl, rfl, rfl, (fun h => by cases h), ⟨0, rfl, hh11, Or.inr ⟨rfl, Cod.dif hx.2.2.2.2.1 hy.2.2.2.2.1 hcd⟩⟩, fun fs hl => c13.trans (X11.ireturnOut hexec hret rfl (Or.inr (Or.inl rfl)) (hb hbytes d55) hl)⟩
theorem pays {l : Launch} {R : Room} {p : Program} {e : Env} {below : List Frame} {s : State} {sargs : Array Value} {len W : Nat} (x t : Addr) (V : Cell) (cd : Int32) (n : Nat) (f : Nat → Int32) (y t' : Addr) (V' : Cell) (cd' : Int32) (k : Nat) (g : Nat → Int32) (z : Int32) (htab : tab.before sargs s = true) (hfr : 2 ≤ R.frames) (hlo : W + 28 ≤ R.locals) :
    Back l R p e below s sargs yN len W (fun A₁ a₁ => A₁.cells + 0 ≤ R.cells ∧ A₁.slots + 0 ≤ R.slots ∧ P x t V cd n f y t' V' cd' k g z a₁ A₁.U) (fun A₁ _ v₁ B₁ => Says01 (SameT n f k g) v₁ A₁.U B₁.U ∧ B₁.locs = A₁.locs ++ [] ∧ B₁.cells = A₁.cells + 0 ∧ B₁.slots = A₁.slots + 0) :=
  (law l x t V cd n f y t' V' cd' k g z).pays htab hfr (by omega)
end SEq
end StrChars
namespace StrChars.Road
open Jvm Sem ClassFile Op Lib Jvm.Stand Jvm.Free Jvm.Free.XT
open Jvm.Lib.Cold (StaticIs)
/-- the words of String.equals(Object) -/
abbrev wordsEq : List Jvm.Cond := [.code SEq.yN SEq.yB 3 (some .boolean), .initialized ST, .classLink ST 10 ST, .fieldLink ST 38 ST "COMPACT_STRINGS" "Z", .fieldLink ST 15 ST "coder" "B", .fieldLink ST 9 ST "value" "[B", .methodLink ST 541 LEq.yN, .static LEq.yN, .code LEq.yN LEq.yB 3 (some .boolean), .initialized "java/lang/StringLatin1"]
theorem tabEq_of {a : Array Value} {s : State} (h : ∀ w ∈ wordsEq, w.before a s = true) : SEq.tab.before a s = true := by
  have hl : LEq.tab.before a s = true := unparts (wk h (.code LEq.yN LEq.yB 3 (some .boolean))) (wks h (.initialized LEq.yN.cls :: LEq.site))
  have q := consq hl h
  exact unparts (wk q (.code SEq.yN SEq.yB 3 (some .boolean))) (wks q (.initialized SEq.yN.cls :: SEq.site))
theorem movedEq {Z s : State} {a0 args : Array Value} (hZ : Z.Warmed39 s.vm) (hw : ∀ d ∈ wordsEq, d.before a0 Z = true) : ∀ d ∈ wordsEq, d.before args s = true := fun d hd => by
  have t : ∀ d ∈ wordsEq, (d.onTables && d.keepsFace) = true := by decide +kernel
  exact RoadKit.mv hZ (hw d hd) (t d hd)
/-- the road's facts of a String, as the laws ask it -/
theorem txt_of {Z U : State} {a0 : Array Value} {kI : Nat} (wi : (Jvm.Cond.instantiable ST kI).before a0 Z = true) (al : Z.vm.Alike U.vm) {x t : Addr} {kb : ClassId} {cs : List Int32} {cd N2 : Int32} {vs : List Value} (E : RoadKit.Exa Z U.heap x ST) (V : RoadKit.Fld Z U.heap x ST "value" "[B" (.ref t)) (C : RoadKit.Fld Z U.heap x ST "coder" "B" (.int cd)) (K : RoadKit.Arv Z U.heap t kb .byte N2 vs (.int 0)) (hc : CodA cs cd N2 vs) (hb : ∀ c ∈ cs, ¬ c < 0 ∧ ¬ (65535 : Int32) < c) (l2 : cs.length ≤ 4000) :
    ∃ A, Txt x t A cd cs.length (fun j => cs.getD j 0) U := by
  obtain ⟨A, K1, K2, K3, K4, K5, K6⟩ := K
  have hcod := hc.cod (by omega) K3 K5
  obtain ⟨D, fV, fC, hB, F1, F2, g1, g2, -, -⟩ := strObj wi al E V C
  exact ⟨A, ⟨_, hB.2.2.1, D, hB.1, rfl, by cases q : D.vm <;> first | rfl | exact absurd q (hB.2.1.2 _)⟩, Has.of hB F1 g1, Has.of hB F2 g2, ⟨K1.1, State.isArrayOf_alike al K1.2.1, K1.2.2, by rcases hcod with ⟨-, q, -⟩ | ⟨-, q, -⟩ <;> omega⟩, hcod, fun j hj => by
    have e : cs.getD j 0 = cs[j] := by simp [List.getD_eq_getElem?_getD, hj]
    show ¬ cs.getD j 0 < 0 ∧ ¬ 65535 < cs.getD j 0
    rw [e]; exact hb _ (List.getElem_mem _)⟩
theorem same_list (cs ds : List Int32) : SameT cs.length (fun j => cs.getD j 0) ds.length (fun j => ds.getD j 0) ↔ cs = ds := by
  constructor
  · rintro ⟨e, q⟩
    refine List.ext_getElem e fun j h1 h2 => ?_
    have := q j h1
    simpa [List.getD_eq_getElem?_getD, h1, h2] using this
  · rintro rfl
    exact ⟨rfl, fun _ _ => rfl⟩
/-- **equals(Object) OF TWO SUCH STRINGS**: 1 just where the chars are the same -/
theorem eqW {p : Program} {l : Launch} {e : Env} {R : Room} {s : State} {args : Array Value} {below : List Frame} {len W : Nat} {Z : State} {a0 : Array Value} {h : Heap} (hZ : Z.Warmed39 s.vm) (hw : ∀ d ∈ wordsEq, d.before a0 Z = true) {kI : Nat} (wi : (Jvm.Cond.instantiable ST kI).before a0 Z = true)
    {x t : Addr} {kb : ClassId} {cs : List Int32} {cd N2 : Int32} {vs : List Value} (E : RoadKit.Exa Z h x ST) (V : RoadKit.Fld Z h x ST "value" "[B" (.ref t)) (C : RoadKit.Fld Z h x ST "coder" "B" (.int cd)) (K : RoadKit.Arv Z h t kb .byte N2 vs (.int 0)) (hc : CodA cs cd N2 vs) (hb : ∀ c ∈ cs, ¬ c < 0 ∧ ¬ (65535 : Int32) < c) (l2 : cs.length ≤ 4000)
    {y t' : Addr} {kb' : ClassId} {ds : List Int32} {cd' N2' : Int32} {vs' : List Value} (E' : RoadKit.Exa Z h y ST) (V' : RoadKit.Fld Z h y ST "value" "[B" (.ref t')) (C' : RoadKit.Fld Z h y ST "coder" "B" (.int cd')) (K' : RoadKit.Arv Z h t' kb' .byte N2' vs' (.int 0)) (hc' : CodA ds cd' N2' vs') (hb' : ∀ c ∈ ds, ¬ c < 0 ∧ ¬ (65535 : Int32) < c) (l2' : ds.length ≤ 4000)
    {z : Int32} (S : RoadKit.Sta Z h ST "COMPACT_STRINGS" "Z" (.int z)) (hz : ¬ z = 0) (hfr : 2 ≤ R.frames) (hlo : W + 28 ≤ R.locals) :
    Back l R p e below s args (⟨"java/lang/String", "equals", "(Ljava/lang/Object;)Z"⟩ : MethodName) len W (fun P a => a = #[.ref x, .ref y] ∧ P.U.heap = h ∧ P.cells + 0 ≤ R.cells ∧ P.slots + 0 ≤ R.slots)
      (fun P _ v B => ∃ L, (((v = some (.int 1) ∧ cs = ds) ∨ (v = some (.int 0) ∧ ¬ cs = ds)) ∧ L = [] ∧ B.U.heap = h) ∧ B.locs = P.locs ++ L ∧ B.cells = P.cells + 0 ∧ B.slots = P.slots + 0) := by
  intro m meth c P g ig mk a X hg hsize hdg hW hn hp'
  obtain ⟨rfl, rfl, r1, r2⟩ := hp'
  have al : Z.vm.Alike P.U.vm := hZ.alike.trans X.warmed.alike
  obtain ⟨A, hx⟩ := txt_of wi al E V C K hc hb l2
  obtain ⟨A', hy⟩ := txt_of wi al E' V' C' K' hc' hb' l2'
  obtain ⟨v, B, X', ⟨⟨w, hv, hh, hq⟩, hl, hk, hs⟩, st⟩ := SEq.pays x t A cd cs.length (fun j => cs.getD j 0) y t' A' cd' ds.length (fun j => ds.getD j 0) z (tabEq_of (movedEq hZ hw)) hfr hlo m meth c P g ig mk _ X hg hsize hdg hW hn ⟨r1, r2, rfl, hx, hy, sta_is al S, hz⟩
  refine ⟨v, B, X', ⟨[], ⟨?_, rfl, hh⟩, hl, hk, hs⟩, st⟩
  rcases hq with ⟨rfl, q⟩ | ⟨rfl, q⟩
  · exact Or.inl ⟨hv, (same_list cs ds).mp q⟩
  · exact Or.inr ⟨hv, fun e => q ((same_list cs ds).mpr e)⟩
end StrChars.Road
namespace StrChars.Road
open Jvm Sem ClassFile Op Lib Jvm.Stand Jvm.Free Jvm.Free.XT
open Jvm.Lib.Cold (StaticIs)
/-- what backV says of its String, as the contracts of this text ask it: cs's low bytes, coder 0 -/
theorem codOf {cs : List Int32} {n : Nat} (hn : cs.length = n) (hb : ∀ c ∈ cs, ¬ 255 < c) : CodA cs 0 (Int32.ofNat n) ((cs.map lo8).map Value.int) := Or.inl ⟨rfl, by rw [hn], by simp [List.map_map, Function.comp_def], hb⟩
end StrChars.Road
end Jvm.Pilot.@@N@@
namespace Jvm.Pilot.@@N@@
open Jvm Jvm.ClassFile Sem Op Lib Jvm.Free Jvm.Stand Jvm.LawKit Jvm.RoadKit Bundle Jvm.Pilot.@@N@@.Jvm.D
theorem own_sz {Z : State} {n0 : Nat} {h : Heap} (O : Old Z n0 h) : n0 ≤ h.size := O.1 ▸ O.2.1
theorem own_nn {v : Value} {a : Addr} (h : v = .ref a) : ¬ v = Value.null := by rw [h]; exact nofun
theorem own_nref {n : String} {v : Value} (h : v.isRef = true) : narrow (.object n) v = v := by rcases ref_cases h with rfl | ⟨_, rfl⟩ <;> rfl
theorem own_fref {n : String} {v : Value} (h : v.isRef = true) : fits (.object n) v = true := by rcases ref_cases h with rfl | ⟨_, rfl⟩ <;> rfl
theorem own_nb {z : Int32} (h : z = 0 ∨ z = 1) : narrow .boolean (.int z) = .int z := by rcases h with rfl | rfl <;> rfl
abbrev my0 : MethodName := ⟨"java/lang/String", "<init>", "([CIILjava/lang/Void;)V"⟩
abbrev my1 : MethodName := ⟨"java/lang/String", "<init>", "([C)V"⟩
abbrev my2 : MethodName := ⟨"jdk/internal/util/Preconditions", "checkFromToIndex", "(IIILjava/util/function/BiFunction;)I"⟩
abbrev my3 : MethodName := ⟨"java/lang/String", "checkBoundsBeginEnd", "(III)V"⟩
abbrev my4 : MethodName := ⟨"java/lang/String", "isLatin1", "()Z"⟩
abbrev my5 : MethodName := ⟨"java/util/Arrays", "checkLength", "(II)V"⟩
abbrev my6 : MethodName := ⟨"java/lang/Math", "max", "(II)I"⟩
abbrev my7 : MethodName := ⟨"java/lang/Math", "min", "(II)I"⟩
abbrev my8 : MethodName := ⟨"jdk/internal/util/ArraysSupport", "newLength", "(III)I"⟩
abbrev my9 : MethodName := ⟨"java/lang/AbstractStringBuilder", "newCapacity", "(I)I"⟩
abbrev my10 : MethodName := ⟨"java/util/Arrays", "copyOf", "([BI)[B"⟩
abbrev my11 : MethodName := ⟨"java/lang/AbstractStringBuilder", "ensureCapacityInternal", "(I)V"⟩
abbrev my12 : MethodName := ⟨"java/lang/String", "coder", "()B"⟩
abbrev my13 : MethodName := ⟨"java/lang/AbstractStringBuilder", "inflateIfNeededFor", "(Ljava/lang/String;)V"⟩
abbrev my14 : MethodName := ⟨"java/lang/String", "getBytes", "([BIB)V"⟩
abbrev my15 : MethodName := ⟨"java/lang/AbstractStringBuilder", "putStringAt", "(ILjava/lang/String;)V"⟩
abbrev my16 : MethodName := ⟨"java/lang/String", "length", "()I"⟩
abbrev my17 : MethodName := ⟨"java/lang/AbstractStringBuilder", "append", "(Ljava/lang/String;)Ljava/lang/AbstractStringBuilder;"⟩
abbrev my18 : MethodName := ⟨"java/lang/StringBuilder", "append", "(Ljava/lang/String;)Ljava/lang/StringBuilder;"⟩
abbrev my19 : MethodName := ⟨"java/lang/AbstractStringBuilder", "<init>", "(I)V"⟩
abbrev my20 : MethodName := ⟨"java/lang/StringBuilder", "<init>", "()V"⟩
abbrev my21 : MethodName := ⟨"java/lang/AbstractStringBuilder", "getValue", "()[B"⟩
abbrev my22 : MethodName := ⟨"java/lang/AbstractStringBuilder", "length", "()I"⟩
abbrev my23 : MethodName := ⟨"java/lang/StringBuilder", "length", "()I"⟩
abbrev my24 : MethodName := ⟨"java/lang/AbstractStringBuilder", "isLatin1", "()Z"⟩
abbrev my25 : MethodName := ⟨"java/util/Arrays", "copyOfRangeByte", "([BII)[B"⟩
abbrev my26 : MethodName := ⟨"java/util/Arrays", "copyOfRange", "([BII)[B"⟩
abbrev my27 : MethodName := ⟨"java/lang/String", "<init>", "(Ljava/lang/AbstractStringBuilder;Ljava/lang/Void;)V"⟩
abbrev my28 : MethodName := ⟨"java/lang/String", "<init>", "(Ljava/lang/StringBuilder;)V"⟩
abbrev my29 : MethodName := ⟨"java/lang/StringBuilder", "toString", "()Ljava/lang/String;"⟩
abbrev my30 : MethodName := ⟨"java/lang/String", "<init>", "([BB)V"⟩
abbrev my31 : MethodName := ⟨"java/lang/StringLatin1", "newString", "([BII)Ljava/lang/String;"⟩
abbrev my32 : MethodName := ⟨"java/lang/String", "substring", "(II)Ljava/lang/String;"⟩
abbrev my33 : MethodName := ⟨"com/example/atropos/atropos/io/CurveText", "quote", "(Ljava/lang/String;)Ljava/lang/String;"⟩
abbrev my34 : MethodName := ⟨"com/example/atropos/atropos/io/CurveTextQuotePinLaw", "put", "([CII)V"⟩
abbrev my35 : MethodName := ⟨"com/example/atropos/atropos/io/CurveTextQuotePinLaw", "copy", "([C[CII)V"⟩
abbrev my36 : MethodName := ⟨"java/lang/String", "equals", "(Ljava/lang/Object;)Z"⟩
abbrev my37 : MethodName := ⟨"java/lang/Object", "<init>", "()V"⟩
abbrev my38 : MethodName := ⟨"java/lang/System", "arraycopy", "(Ljava/lang/Object;ILjava/lang/Object;II)V"⟩
abbrev HW (a0 : Array Value) (Z : State) : Prop := ∀ d ∈ tables_1, d.before a0 Z = true
abbrev VI (z : Int32) : Slot := .val (.int z)
abbrev VR (a : Addr) : Slot := .val (.ref a)
abbrev GO (p : Program) (e : Env) (b : List Frame) (T : State) (g : JFrame) (t : State) : Prop := Steps p.tables e b (T.setTop g) t
theorem w0 {g : JFrame} {rest : List Value} {W : Nat} (h1 : g.monitorRoom = 0) (h2 : (rest.map fun v => v.category).sum = W) : 2 * g.monitorRoom + (rest.map fun v => v.category).sum ≤ W := by rw [h1, h2]; simp
abbrev FL (m : MethodId) (x0 x1 x2 x3 x4 x5 : Int32) (pc : Nat) (a b c d e f : Slot) (S : List Value) : JFrame := mkF m pc #[VI x0, VI x1, VI x2, VI x3, VI x4, VI x5, a, b, c, d, e, f] S
section OW
variable {a0 : Array Value} {Z : State}
theorem ow0 (hw : HW a0 Z) : (Jvm.Cond.arrayClass Jvm.ClassFile.FieldType.char).before a0 Z = true := hw _ (List.mem_of_getElem? (i := 0) rfl)
theorem ow1 (hw : HW a0 Z) : (Jvm.Cond.methodLink "com/example/atropos/atropos/io/CurveTextQuotePinLaw" (7 : Nat) my34).before a0 Z = true := hw _ (List.mem_of_getElem? (i := 1) rfl)
theorem ow2 (hw : HW a0 Z) : (Jvm.Cond.static my34).before a0 Z = true := hw _ (List.mem_of_getElem? (i := 2) rfl)
theorem ow3 (hw : HW a0 Z) : (Jvm.Cond.initialized "com/example/atropos/atropos/io/CurveTextQuotePinLaw").before a0 Z = true := hw _ (List.mem_of_getElem? (i := 3) rfl)
theorem ow4 (hw : HW a0 Z) : (Jvm.Cond.code my34 method_3_code (3 : Nat) (Option.none : Option Jvm.ClassFile.FieldType)).before a0 Z = true := hw _ (List.mem_of_getElem? (i := 4) rfl)
theorem ow5 (hw : HW a0 Z) : (Jvm.Cond.methodLink "com/example/atropos/atropos/io/CurveTextQuotePinLaw" (13 : Nat) my7).before a0 Z = true := hw _ (List.mem_of_getElem? (i := 5) rfl)
theorem ow6 (hw : HW a0 Z) : (Jvm.Cond.static my7).before a0 Z = true := hw _ (List.mem_of_getElem? (i := 6) rfl)
theorem ow7 (hw : HW a0 Z) : (Jvm.Cond.initialized "java/lang/Math").before a0 Z = true := hw _ (List.mem_of_getElem? (i := 7) rfl)
theorem ow8 (hw : HW a0 Z) : (Jvm.Cond.code my7 jdk_29_method_69_code (2 : Nat) (Option.some Jvm.ClassFile.FieldType.int)).before a0 Z = true := hw _ (List.mem_of_getElem? (i := 8) rfl)
theorem ow9 (hw : HW a0 Z) : (Jvm.Cond.methodLink "com/example/atropos/atropos/io/CurveTextQuotePinLaw" (19 : Nat) my35).before a0 Z = true := hw _ (List.mem_of_getElem? (i := 9) rfl)
theorem ow10 (hw : HW a0 Z) : (Jvm.Cond.static my35).before a0 Z = true := hw _ (List.mem_of_getElem? (i := 10) rfl)
theorem ow11 (hw : HW a0 Z) : (Jvm.Cond.code my35 method_4_code (4 : Nat) (Option.none : Option Jvm.ClassFile.FieldType)).before a0 Z = true := hw _ (List.mem_of_getElem? (i := 11) rfl)
theorem ow12 (hw : HW a0 Z) : (Jvm.Cond.classLink "com/example/atropos/atropos/io/CurveTextQuotePinLaw" (23 : Nat) "java/lang/String").before a0 Z = true := hw _ (List.mem_of_getElem? (i := 12) rfl)
theorem ow13 (hw : HW a0 Z) : (Jvm.Cond.instantiable "java/lang/String" (4 : Nat)).before a0 Z = true := hw _ (List.mem_of_getElem? (i := 13) rfl)
theorem ow14 (hw : HW a0 Z) : (Jvm.Cond.initialized "java/lang/String").before a0 Z = true := hw _ (List.mem_of_getElem? (i := 14) rfl)
theorem ow15 (hw : HW a0 Z) : (Jvm.Cond.methodLink "com/example/atropos/atropos/io/CurveTextQuotePinLaw" (25 : Nat) my1).before a0 Z = true := hw _ (List.mem_of_getElem? (i := 15) rfl)
theorem ow16 (hw : HW a0 Z) : (Jvm.Cond.instanceMethod my1).before a0 Z = true := hw _ (List.mem_of_getElem? (i := 16) rfl)
theorem ow17 (hw : HW a0 Z) : (Jvm.Cond.code my1 jdk_42_method_3_code (2 : Nat) (Option.none : Option Jvm.ClassFile.FieldType)).before a0 Z = true := hw _ (List.mem_of_getElem? (i := 17) rfl)
theorem ow18 (hw : HW a0 Z) : (Jvm.Cond.methodLink "java/lang/String" (27 : Nat) my0).before a0 Z = true := hw _ (List.mem_of_getElem? (i := 18) rfl)
theorem ow19 (hw : HW a0 Z) : (Jvm.Cond.instanceMethod my0).before a0 Z = true := hw _ (List.mem_of_getElem? (i := 19) rfl)
theorem ow21 (hw : HW a0 Z) : (Jvm.Cond.code my0 jdk_42_method_149_code (6 : Nat) (Option.none : Option Jvm.ClassFile.FieldType)).before a0 Z = true := hw _ (List.mem_of_getElem? (i := 21) rfl)
theorem ow22 (hw : HW a0 Z) : (Jvm.Cond.methodLink "java/lang/String" (1 : Nat) my37).before a0 Z = true := hw _ (List.mem_of_getElem? (i := 22) rfl)
theorem ow23 (hw : HW a0 Z) : (Jvm.Cond.instanceMethod my37).before a0 Z = true := hw _ (List.mem_of_getElem? (i := 23) rfl)
theorem ow24 (hw : HW a0 Z) : (Jvm.Cond.code my37 object_method_1_code (1 : Nat) (Option.none : Option Jvm.ClassFile.FieldType)).before a0 Z = true := hw _ (List.mem_of_getElem? (i := 24) rfl)
theorem ow25 (hw : HW a0 Z) : (Jvm.Cond.fieldLink "java/lang/String" (38 : Nat) "java/lang/String" "COMPACT_STRINGS" "Z").before a0 Z = true := hw _ (List.mem_of_getElem? (i := 25) rfl)
theorem ow30 (hw : HW a0 Z) : (Jvm.Cond.arrayClass Jvm.ClassFile.FieldType.byte).before a0 Z = true := hw _ (List.mem_of_getElem? (i := 30) rfl)
theorem ow37 (hw : HW a0 Z) : (Jvm.Cond.fieldLink "java/lang/String" (15 : Nat) "java/lang/String" "coder" "B").before a0 Z = true := hw _ (List.mem_of_getElem? (i := 37) rfl)
theorem ow38 (hw : HW a0 Z) : (Jvm.Cond.laysFinal "java/lang/String" "java/lang/String" "coder" "B").before a0 Z = true := hw _ (List.mem_of_getElem? (i := 38) rfl)
theorem ow39 (hw : HW a0 Z) : (Jvm.Cond.fieldLink "java/lang/String" (9 : Nat) "java/lang/String" "value" "[B").before a0 Z = true := hw _ (List.mem_of_getElem? (i := 39) rfl)
theorem ow40 (hw : HW a0 Z) : (Jvm.Cond.laysFinal "java/lang/String" "java/lang/String" "value" "[B").before a0 Z = true := hw _ (List.mem_of_getElem? (i := 40) rfl)
theorem ow41 (hw : HW a0 Z) : (Jvm.Cond.methodLink "com/example/atropos/atropos/io/CurveTextQuotePinLaw" (28 : Nat) my33).before a0 Z = true := hw _ (List.mem_of_getElem? (i := 41) rfl)
theorem ow42 (hw : HW a0 Z) : (Jvm.Cond.static my33).before a0 Z = true := hw _ (List.mem_of_getElem? (i := 42) rfl)
theorem ow43 (hw : HW a0 Z) : (Jvm.Cond.initialized "com/example/atropos/atropos/io/CurveText").before a0 Z = true := hw _ (List.mem_of_getElem? (i := 43) rfl)
theorem ow44 (hw : HW a0 Z) : (Jvm.Cond.code my33 prog_21_method_10_code (2 : Nat) (Option.some (Jvm.ClassFile.FieldType.object "java/lang/String"))).before a0 Z = true := hw _ (List.mem_of_getElem? (i := 44) rfl)
theorem ow45 (hw : HW a0 Z) : (Jvm.Cond.methodLink "com/example/atropos/atropos/io/CurveText" (164 : Nat) my16).before a0 Z = true := hw _ (List.mem_of_getElem? (i := 45) rfl)
theorem ow46 (hw : HW a0 Z) : (Jvm.Cond.declares my16).before a0 Z = true := hw _ (List.mem_of_getElem? (i := 46) rfl)
theorem ow47 (hw : HW a0 Z) : (Jvm.Cond.instanceMethod my16).before a0 Z = true := hw _ (List.mem_of_getElem? (i := 47) rfl)
theorem ow48 (hw : HW a0 Z) : (Jvm.Cond.selects "java/lang/String" my16 my16).before a0 Z = true := hw _ (List.mem_of_getElem? (i := 48) rfl)
theorem ow49 (hw : HW a0 Z) : (Jvm.Cond.code my16 jdk_42_method_54_code (1 : Nat) (Option.some Jvm.ClassFile.FieldType.int)).before a0 Z = true := hw _ (List.mem_of_getElem? (i := 49) rfl)
theorem ow50 (hw : HW a0 Z) : (Jvm.Cond.methodLink "java/lang/String" (335 : Nat) my12).before a0 Z = true := hw _ (List.mem_of_getElem? (i := 50) rfl)
theorem ow51 (hw : HW a0 Z) : (Jvm.Cond.declares my12).before a0 Z = true := hw _ (List.mem_of_getElem? (i := 51) rfl)
theorem ow52 (hw : HW a0 Z) : (Jvm.Cond.instanceMethod my12).before a0 Z = true := hw _ (List.mem_of_getElem? (i := 52) rfl)
theorem ow53 (hw : HW a0 Z) : (Jvm.Cond.selects "java/lang/String" my12 my12).before a0 Z = true := hw _ (List.mem_of_getElem? (i := 53) rfl)
theorem ow54 (hw : HW a0 Z) : (Jvm.Cond.code my12 jdk_42_method_152_code (1 : Nat) (Option.some Jvm.ClassFile.FieldType.byte)).before a0 Z = true := hw _ (List.mem_of_getElem? (i := 54) rfl)
theorem ow55 (hw : HW a0 Z) : (Jvm.Cond.classLink "com/example/atropos/atropos/io/CurveText" (71 : Nat) "java/lang/StringBuilder").before a0 Z = true := hw _ (List.mem_of_getElem? (i := 55) rfl)
theorem ow56 (hw : HW a0 Z) : (Jvm.Cond.instantiable "java/lang/StringBuilder" (4 : Nat)).before a0 Z = true := hw _ (List.mem_of_getElem? (i := 56) rfl)
theorem ow57 (hw : HW a0 Z) : (Jvm.Cond.initialized "java/lang/StringBuilder").before a0 Z = true := hw _ (List.mem_of_getElem? (i := 57) rfl)
theorem ow58 (hw : HW a0 Z) : (Jvm.Cond.methodLink "com/example/atropos/atropos/io/CurveText" (73 : Nat) my20).before a0 Z = true := hw _ (List.mem_of_getElem? (i := 58) rfl)
theorem ow59 (hw : HW a0 Z) : (Jvm.Cond.instanceMethod my20).before a0 Z = true := hw _ (List.mem_of_getElem? (i := 59) rfl)
theorem ow60 (hw : HW a0 Z) : (Jvm.Cond.code my20 jdk_67_method_1_code (1 : Nat) (Option.none : Option Jvm.ClassFile.FieldType)).before a0 Z = true := hw _ (List.mem_of_getElem? (i := 60) rfl)
theorem ow61 (hw : HW a0 Z) : (Jvm.Cond.methodLink "java/lang/StringBuilder" (1 : Nat) my19).before a0 Z = true := hw _ (List.mem_of_getElem? (i := 61) rfl)
theorem ow62 (hw : HW a0 Z) : (Jvm.Cond.instanceMethod my19).before a0 Z = true := hw _ (List.mem_of_getElem? (i := 62) rfl)
theorem ow65 (hw : HW a0 Z) : (Jvm.Cond.initialized "java/lang/AbstractStringBuilder").before a0 Z = true := hw _ (List.mem_of_getElem? (i := 65) rfl)
theorem ow66 (hw : HW a0 Z) : (Jvm.Cond.code my19 jdk_68_method_2_code (2 : Nat) (Option.none : Option Jvm.ClassFile.FieldType)).before a0 Z = true := hw _ (List.mem_of_getElem? (i := 66) rfl)
theorem ow67 (hw : HW a0 Z) : (Jvm.Cond.methodLink "java/lang/AbstractStringBuilder" (3 : Nat) my37).before a0 Z = true := hw _ (List.mem_of_getElem? (i := 67) rfl)
theorem ow68 (hw : HW a0 Z) : (Jvm.Cond.fieldLink "java/lang/AbstractStringBuilder" (18 : Nat) "java/lang/String" "COMPACT_STRINGS" "Z").before a0 Z = true := hw _ (List.mem_of_getElem? (i := 68) rfl)
theorem ow69 (hw : HW a0 Z) : (Jvm.Cond.fieldLink "java/lang/AbstractStringBuilder" (15 : Nat) "java/lang/AbstractStringBuilder" "value" "[B").before a0 Z = true := hw _ (List.mem_of_getElem? (i := 69) rfl)
theorem ow70 (hw : HW a0 Z) : (Jvm.Cond.lays "java/lang/StringBuilder" "java/lang/AbstractStringBuilder" "value" "[B").before a0 Z = true := hw _ (List.mem_of_getElem? (i := 70) rfl)
theorem ow71 (hw : HW a0 Z) : (Jvm.Cond.fieldLink "java/lang/AbstractStringBuilder" (22 : Nat) "java/lang/AbstractStringBuilder" "coder" "B").before a0 Z = true := hw _ (List.mem_of_getElem? (i := 71) rfl)
theorem ow72 (hw : HW a0 Z) : (Jvm.Cond.lays "java/lang/StringBuilder" "java/lang/AbstractStringBuilder" "coder" "B").before a0 Z = true := hw _ (List.mem_of_getElem? (i := 72) rfl)
theorem ow73 (hw : HW a0 Z) : (Jvm.Cond.stringLink "com/example/atropos/atropos/io/CurveText" (222 : Nat) "\"").before a0 Z = true := hw _ (List.mem_of_getElem? (i := 73) rfl)
theorem ow76 (hw : HW a0 Z) : (Jvm.Cond.methodLink "com/example/atropos/atropos/io/CurveText" (78 : Nat) my18).before a0 Z = true := hw _ (List.mem_of_getElem? (i := 76) rfl)
theorem ow77 (hw : HW a0 Z) : (Jvm.Cond.declares my18).before a0 Z = true := hw _ (List.mem_of_getElem? (i := 77) rfl)
theorem ow78 (hw : HW a0 Z) : (Jvm.Cond.instanceMethod my18).before a0 Z = true := hw _ (List.mem_of_getElem? (i := 78) rfl)
theorem ow79 (hw : HW a0 Z) : (Jvm.Cond.selects "java/lang/StringBuilder" my18 my18).before a0 Z = true := hw _ (List.mem_of_getElem? (i := 79) rfl)
theorem ow80 (hw : HW a0 Z) : (Jvm.Cond.code my18 jdk_67_method_7_code (2 : Nat) (Option.some (Jvm.ClassFile.FieldType.object "java/lang/StringBuilder"))).before a0 Z = true := hw _ (List.mem_of_getElem? (i := 80) rfl)
theorem ow81 (hw : HW a0 Z) : (Jvm.Cond.methodLink "java/lang/StringBuilder" (29 : Nat) my17).before a0 Z = true := hw _ (List.mem_of_getElem? (i := 81) rfl)
theorem ow82 (hw : HW a0 Z) : (Jvm.Cond.instanceMethod my17).before a0 Z = true := hw _ (List.mem_of_getElem? (i := 82) rfl)
theorem ow83 (hw : HW a0 Z) : (Jvm.Cond.superclass "java/lang/StringBuilder" "java/lang/AbstractStringBuilder").before a0 Z = true := hw _ (List.mem_of_getElem? (i := 83) rfl)
theorem ow85 (hw : HW a0 Z) : (Jvm.Cond.code my17 jdk_68_method_22_code (3 : Nat) (Option.some (Jvm.ClassFile.FieldType.object "java/lang/AbstractStringBuilder"))).before a0 Z = true := hw _ (List.mem_of_getElem? (i := 85) rfl)
theorem ow86 (hw : HW a0 Z) : (Jvm.Cond.methodLink "java/lang/AbstractStringBuilder" (32 : Nat) my16).before a0 Z = true := hw _ (List.mem_of_getElem? (i := 86) rfl)
theorem ow87 (hw : HW a0 Z) : (Jvm.Cond.fieldLink "java/lang/AbstractStringBuilder" (79 : Nat) "java/lang/AbstractStringBuilder" "count" "I").before a0 Z = true := hw _ (List.mem_of_getElem? (i := 87) rfl)
theorem ow88 (hw : HW a0 Z) : (Jvm.Cond.lays "java/lang/StringBuilder" "java/lang/AbstractStringBuilder" "count" "I").before a0 Z = true := hw _ (List.mem_of_getElem? (i := 88) rfl)
theorem ow89 (hw : HW a0 Z) : (Jvm.Cond.methodLink "java/lang/AbstractStringBuilder" (100 : Nat) my11).before a0 Z = true := hw _ (List.mem_of_getElem? (i := 89) rfl)
theorem ow90 (hw : HW a0 Z) : (Jvm.Cond.instanceMethod my11).before a0 Z = true := hw _ (List.mem_of_getElem? (i := 90) rfl)
theorem ow92 (hw : HW a0 Z) : (Jvm.Cond.selects "java/lang/StringBuilder" my11 my11).before a0 Z = true := hw _ (List.mem_of_getElem? (i := 92) rfl)
theorem ow93 (hw : HW a0 Z) : (Jvm.Cond.code my11 jdk_68_method_9_code (3 : Nat) (Option.none : Option Jvm.ClassFile.FieldType)).before a0 Z = true := hw _ (List.mem_of_getElem? (i := 93) rfl)
theorem ow94 (hw : HW a0 Z) : (Jvm.Cond.methodLink "java/lang/AbstractStringBuilder" (208 : Nat) my15).before a0 Z = true := hw _ (List.mem_of_getElem? (i := 94) rfl)
theorem ow95 (hw : HW a0 Z) : (Jvm.Cond.instanceMethod my15).before a0 Z = true := hw _ (List.mem_of_getElem? (i := 95) rfl)
theorem ow97 (hw : HW a0 Z) : (Jvm.Cond.selects "java/lang/StringBuilder" my15 my15).before a0 Z = true := hw _ (List.mem_of_getElem? (i := 97) rfl)
theorem ow98 (hw : HW a0 Z) : (Jvm.Cond.code my15 jdk_68_method_73_code (3 : Nat) (Option.none : Option Jvm.ClassFile.FieldType)).before a0 Z = true := hw _ (List.mem_of_getElem? (i := 98) rfl)
theorem ow99 (hw : HW a0 Z) : (Jvm.Cond.methodLink "java/lang/AbstractStringBuilder" (397 : Nat) my13).before a0 Z = true := hw _ (List.mem_of_getElem? (i := 99) rfl)
theorem ow100 (hw : HW a0 Z) : (Jvm.Cond.instanceMethod my13).before a0 Z = true := hw _ (List.mem_of_getElem? (i := 100) rfl)
theorem ow102 (hw : HW a0 Z) : (Jvm.Cond.selects "java/lang/StringBuilder" my13 my13).before a0 Z = true := hw _ (List.mem_of_getElem? (i := 102) rfl)
theorem ow103 (hw : HW a0 Z) : (Jvm.Cond.code my13 jdk_68_method_71_code (2 : Nat) (Option.none : Option Jvm.ClassFile.FieldType)).before a0 Z = true := hw _ (List.mem_of_getElem? (i := 103) rfl)
theorem ow104 (hw : HW a0 Z) : (Jvm.Cond.methodLink "java/lang/AbstractStringBuilder" (40 : Nat) my12).before a0 Z = true := hw _ (List.mem_of_getElem? (i := 104) rfl)
theorem ow105 (hw : HW a0 Z) : (Jvm.Cond.methodLink "java/lang/AbstractStringBuilder" (399 : Nat) my14).before a0 Z = true := hw _ (List.mem_of_getElem? (i := 105) rfl)
theorem ow106 (hw : HW a0 Z) : (Jvm.Cond.declares my14).before a0 Z = true := hw _ (List.mem_of_getElem? (i := 106) rfl)
theorem ow107 (hw : HW a0 Z) : (Jvm.Cond.instanceMethod my14).before a0 Z = true := hw _ (List.mem_of_getElem? (i := 107) rfl)
theorem ow108 (hw : HW a0 Z) : (Jvm.Cond.selects "java/lang/String" my14 my14).before a0 Z = true := hw _ (List.mem_of_getElem? (i := 108) rfl)
theorem ow109 (hw : HW a0 Z) : (Jvm.Cond.code my14 jdk_42_method_147_code (4 : Nat) (Option.none : Option Jvm.ClassFile.FieldType)).before a0 Z = true := hw _ (List.mem_of_getElem? (i := 109) rfl)
theorem ow110 (hw : HW a0 Z) : (Jvm.Cond.methodLink "java/lang/String" (212 : Nat) my38).before a0 Z = true := hw _ (List.mem_of_getElem? (i := 110) rfl)
theorem ow111 (hw : HW a0 Z) : (Jvm.Cond.static my38).before a0 Z = true := hw _ (List.mem_of_getElem? (i := 111) rfl)
theorem ow112 (hw : HW a0 Z) : (Jvm.Cond.initialized "java/lang/System").before a0 Z = true := hw _ (List.mem_of_getElem? (i := 112) rfl)
theorem ow113 (hw : HW a0 Z) : (Jvm.Cond.native my38).before a0 Z = true := hw _ (List.mem_of_getElem? (i := 113) rfl)
theorem ow114 (hw : HW a0 Z) : (Jvm.Cond.methodLink "com/example/atropos/atropos/io/CurveText" (87 : Nat) my29).before a0 Z = true := hw _ (List.mem_of_getElem? (i := 114) rfl)
theorem ow115 (hw : HW a0 Z) : (Jvm.Cond.declares my29).before a0 Z = true := hw _ (List.mem_of_getElem? (i := 115) rfl)
theorem ow116 (hw : HW a0 Z) : (Jvm.Cond.instanceMethod my29).before a0 Z = true := hw _ (List.mem_of_getElem? (i := 116) rfl)
theorem ow117 (hw : HW a0 Z) : (Jvm.Cond.selects "java/lang/StringBuilder" my29 my29).before a0 Z = true := hw _ (List.mem_of_getElem? (i := 117) rfl)
theorem ow118 (hw : HW a0 Z) : (Jvm.Cond.code my29 jdk_67_method_42_code (1 : Nat) (Option.some (Jvm.ClassFile.FieldType.object "java/lang/String"))).before a0 Z = true := hw _ (List.mem_of_getElem? (i := 118) rfl)
theorem ow119 (hw : HW a0 Z) : (Jvm.Cond.classLink "java/lang/StringBuilder" (18 : Nat) "java/lang/String").before a0 Z = true := hw _ (List.mem_of_getElem? (i := 119) rfl)
theorem ow120 (hw : HW a0 Z) : (Jvm.Cond.methodLink "java/lang/StringBuilder" (137 : Nat) my28).before a0 Z = true := hw _ (List.mem_of_getElem? (i := 120) rfl)
theorem ow121 (hw : HW a0 Z) : (Jvm.Cond.instanceMethod my28).before a0 Z = true := hw _ (List.mem_of_getElem? (i := 121) rfl)
theorem ow122 (hw : HW a0 Z) : (Jvm.Cond.code my28 jdk_42_method_53_code (2 : Nat) (Option.none : Option Jvm.ClassFile.FieldType)).before a0 Z = true := hw _ (List.mem_of_getElem? (i := 122) rfl)
theorem ow123 (hw : HW a0 Z) : (Jvm.Cond.methodLink "java/lang/String" (489 : Nat) my27).before a0 Z = true := hw _ (List.mem_of_getElem? (i := 123) rfl)
theorem ow124 (hw : HW a0 Z) : (Jvm.Cond.instanceMethod my27).before a0 Z = true := hw _ (List.mem_of_getElem? (i := 124) rfl)
theorem ow125 (hw : HW a0 Z) : (Jvm.Cond.code my27 jdk_42_method_150_code (5 : Nat) (Option.none : Option Jvm.ClassFile.FieldType)).before a0 Z = true := hw _ (List.mem_of_getElem? (i := 125) rfl)
theorem ow126 (hw : HW a0 Z) : (Jvm.Cond.methodLink "java/lang/String" (552 : Nat) my21).before a0 Z = true := hw _ (List.mem_of_getElem? (i := 126) rfl)
theorem ow127 (hw : HW a0 Z) : (Jvm.Cond.declares my21).before a0 Z = true := hw _ (List.mem_of_getElem? (i := 127) rfl)
theorem ow128 (hw : HW a0 Z) : (Jvm.Cond.instanceMethod my21).before a0 Z = true := hw _ (List.mem_of_getElem? (i := 128) rfl)
theorem ow129 (hw : HW a0 Z) : (Jvm.Cond.selects "java/lang/StringBuilder" my21 my21).before a0 Z = true := hw _ (List.mem_of_getElem? (i := 129) rfl)
theorem ow130 (hw : HW a0 Z) : (Jvm.Cond.code my21 jdk_68_method_64_code (1 : Nat) (Option.some (Jvm.ClassFile.FieldType.array Jvm.ClassFile.FieldType.byte))).before a0 Z = true := hw _ (List.mem_of_getElem? (i := 130) rfl)
theorem ow131 (hw : HW a0 Z) : (Jvm.Cond.methodLink "java/lang/String" (549 : Nat) my22).before a0 Z = true := hw _ (List.mem_of_getElem? (i := 131) rfl)
theorem ow132 (hw : HW a0 Z) : (Jvm.Cond.declares my22).before a0 Z = true := hw _ (List.mem_of_getElem? (i := 132) rfl)
theorem ow133 (hw : HW a0 Z) : (Jvm.Cond.instanceMethod my22).before a0 Z = true := hw _ (List.mem_of_getElem? (i := 133) rfl)
theorem ow134 (hw : HW a0 Z) : (Jvm.Cond.selects "java/lang/StringBuilder" my22 my23).before a0 Z = true := hw _ (List.mem_of_getElem? (i := 134) rfl)
theorem ow135 (hw : HW a0 Z) : (Jvm.Cond.instanceMethod my23).before a0 Z = true := hw _ (List.mem_of_getElem? (i := 135) rfl)
theorem ow136 (hw : HW a0 Z) : (Jvm.Cond.code my23 jdk_67_method_93_code (1 : Nat) (Option.some Jvm.ClassFile.FieldType.int)).before a0 Z = true := hw _ (List.mem_of_getElem? (i := 136) rfl)
theorem ow137 (hw : HW a0 Z) : (Jvm.Cond.methodLink "java/lang/StringBuilder" (343 : Nat) my22).before a0 Z = true := hw _ (List.mem_of_getElem? (i := 137) rfl)
theorem ow138 (hw : HW a0 Z) : (Jvm.Cond.code my22 jdk_68_method_6_code (1 : Nat) (Option.some Jvm.ClassFile.FieldType.int)).before a0 Z = true := hw _ (List.mem_of_getElem? (i := 138) rfl)
theorem ow139 (hw : HW a0 Z) : (Jvm.Cond.methodLink "java/lang/String" (1047 : Nat) my24).before a0 Z = true := hw _ (List.mem_of_getElem? (i := 139) rfl)
theorem ow140 (hw : HW a0 Z) : (Jvm.Cond.declares my24).before a0 Z = true := hw _ (List.mem_of_getElem? (i := 140) rfl)
theorem ow141 (hw : HW a0 Z) : (Jvm.Cond.instanceMethod my24).before a0 Z = true := hw _ (List.mem_of_getElem? (i := 141) rfl)
theorem ow142 (hw : HW a0 Z) : (Jvm.Cond.selects "java/lang/StringBuilder" my24 my24).before a0 Z = true := hw _ (List.mem_of_getElem? (i := 142) rfl)
theorem ow143 (hw : HW a0 Z) : (Jvm.Cond.code my24 jdk_68_method_68_code (1 : Nat) (Option.some Jvm.ClassFile.FieldType.boolean)).before a0 Z = true := hw _ (List.mem_of_getElem? (i := 143) rfl)
theorem ow144 (hw : HW a0 Z) : (Jvm.Cond.methodLink "java/lang/String" (54 : Nat) my26).before a0 Z = true := hw _ (List.mem_of_getElem? (i := 144) rfl)
theorem ow145 (hw : HW a0 Z) : (Jvm.Cond.static my26).before a0 Z = true := hw _ (List.mem_of_getElem? (i := 145) rfl)
theorem ow146 (hw : HW a0 Z) : (Jvm.Cond.initialized "java/util/Arrays").before a0 Z = true := hw _ (List.mem_of_getElem? (i := 146) rfl)
theorem ow147 (hw : HW a0 Z) : (Jvm.Cond.code my26 jdk_65_method_132_code (3 : Nat) (Option.some (Jvm.ClassFile.FieldType.array Jvm.ClassFile.FieldType.byte))).before a0 Z = true := hw _ (List.mem_of_getElem? (i := 147) rfl)
theorem ow148 (hw : HW a0 Z) : (Jvm.Cond.methodLink "java/util/Arrays" (339 : Nat) my25).before a0 Z = true := hw _ (List.mem_of_getElem? (i := 148) rfl)
theorem ow149 (hw : HW a0 Z) : (Jvm.Cond.static my25).before a0 Z = true := hw _ (List.mem_of_getElem? (i := 149) rfl)
theorem ow150 (hw : HW a0 Z) : (Jvm.Cond.code my25 jdk_65_method_133_code (5 : Nat) (Option.some (Jvm.ClassFile.FieldType.array Jvm.ClassFile.FieldType.byte))).before a0 Z = true := hw _ (List.mem_of_getElem? (i := 150) rfl)
theorem ow151 (hw : HW a0 Z) : (Jvm.Cond.methodLink "java/util/Arrays" (343 : Nat) my5).before a0 Z = true := hw _ (List.mem_of_getElem? (i := 151) rfl)
theorem ow152 (hw : HW a0 Z) : (Jvm.Cond.static my5).before a0 Z = true := hw _ (List.mem_of_getElem? (i := 152) rfl)
theorem ow153 (hw : HW a0 Z) : (Jvm.Cond.code my5 jdk_65_method_131_code (2 : Nat) (Option.none : Option Jvm.ClassFile.FieldType)).before a0 Z = true := hw _ (List.mem_of_getElem? (i := 153) rfl)
theorem ow154 (hw : HW a0 Z) : (Jvm.Cond.methodLink "java/util/Arrays" (304 : Nat) my7).before a0 Z = true := hw _ (List.mem_of_getElem? (i := 154) rfl)
theorem ow155 (hw : HW a0 Z) : (Jvm.Cond.methodLink "java/util/Arrays" (150 : Nat) my38).before a0 Z = true := hw _ (List.mem_of_getElem? (i := 155) rfl)
theorem ow156 (hw : HW a0 Z) : (Jvm.Cond.methodLink "com/example/atropos/atropos/io/CurveTextQuotePinLaw" (34 : Nat) my36).before a0 Z = true := hw _ (List.mem_of_getElem? (i := 156) rfl)
theorem ow157 (hw : HW a0 Z) : (Jvm.Cond.declares my36).before a0 Z = true := hw _ (List.mem_of_getElem? (i := 157) rfl)
theorem ow158 (hw : HW a0 Z) : (Jvm.Cond.instanceMethod my36).before a0 Z = true := hw _ (List.mem_of_getElem? (i := 158) rfl)
theorem ow159 (hw : HW a0 Z) : (Jvm.Cond.selects "java/lang/String" my36 my36).before a0 Z = true := hw _ (List.mem_of_getElem? (i := 159) rfl)
theorem ow160 (hw : HW a0 Z) : (Jvm.Cond.code my36 jdk_42_method_66_code (3 : Nat) (Option.some Jvm.ClassFile.FieldType.boolean)).before a0 Z = true := hw _ (List.mem_of_getElem? (i := 160) rfl)
theorem ow164 (hw : HW a0 Z) : (Jvm.Cond.initialized "java/lang/StringLatin1").before a0 Z = true := hw _ (List.mem_of_getElem? (i := 164) rfl)
theorem ow166 (hw : HW a0 Z) : (Jvm.Cond.methodLink "java/lang/AbstractStringBuilder" (104 : Nat) my9).before a0 Z = true := hw _ (List.mem_of_getElem? (i := 166) rfl)
theorem ow167 (hw : HW a0 Z) : (Jvm.Cond.instanceMethod my9).before a0 Z = true := hw _ (List.mem_of_getElem? (i := 167) rfl)
theorem ow169 (hw : HW a0 Z) : (Jvm.Cond.selects "java/lang/StringBuilder" my9 my9).before a0 Z = true := hw _ (List.mem_of_getElem? (i := 169) rfl)
theorem ow170 (hw : HW a0 Z) : (Jvm.Cond.code my9 jdk_68_method_10_code (6 : Nat) (Option.some Jvm.ClassFile.FieldType.int)).before a0 Z = true := hw _ (List.mem_of_getElem? (i := 170) rfl)
theorem ow171 (hw : HW a0 Z) : (Jvm.Cond.methodLink "java/lang/AbstractStringBuilder" (114 : Nat) my8).before a0 Z = true := hw _ (List.mem_of_getElem? (i := 171) rfl)
theorem ow172 (hw : HW a0 Z) : (Jvm.Cond.static my8).before a0 Z = true := hw _ (List.mem_of_getElem? (i := 172) rfl)
theorem ow173 (hw : HW a0 Z) : (Jvm.Cond.initialized "jdk/internal/util/ArraysSupport").before a0 Z = true := hw _ (List.mem_of_getElem? (i := 173) rfl)
theorem ow174 (hw : HW a0 Z) : (Jvm.Cond.code my8 jdk_48_method_27_code (4 : Nat) (Option.some Jvm.ClassFile.FieldType.int)).before a0 Z = true := hw _ (List.mem_of_getElem? (i := 174) rfl)
theorem ow175 (hw : HW a0 Z) : (Jvm.Cond.methodLink "jdk/internal/util/ArraysSupport" (194 : Nat) my6).before a0 Z = true := hw _ (List.mem_of_getElem? (i := 175) rfl)
theorem ow176 (hw : HW a0 Z) : (Jvm.Cond.static my6).before a0 Z = true := hw _ (List.mem_of_getElem? (i := 176) rfl)
theorem ow177 (hw : HW a0 Z) : (Jvm.Cond.code my6 jdk_29_method_65_code (2 : Nat) (Option.some Jvm.ClassFile.FieldType.int)).before a0 Z = true := hw _ (List.mem_of_getElem? (i := 177) rfl)
theorem ow178 (hw : HW a0 Z) : (Jvm.Cond.constant "jdk/internal/util/ArraysSupport" (200 : Nat) (2147483639 : Int32)).before a0 Z = true := hw _ (List.mem_of_getElem? (i := 178) rfl)
theorem ow179 (hw : HW a0 Z) : (Jvm.Cond.constant "java/lang/AbstractStringBuilder" (39 : Nat) (2147483647 : Int32)).before a0 Z = true := hw _ (List.mem_of_getElem? (i := 179) rfl)
theorem ow180 (hw : HW a0 Z) : (Jvm.Cond.methodLink "java/lang/AbstractStringBuilder" (108 : Nat) my10).before a0 Z = true := hw _ (List.mem_of_getElem? (i := 180) rfl)
theorem ow181 (hw : HW a0 Z) : (Jvm.Cond.static my10).before a0 Z = true := hw _ (List.mem_of_getElem? (i := 181) rfl)
theorem ow182 (hw : HW a0 Z) : (Jvm.Cond.code my10 jdk_65_method_121_code (3 : Nat) (Option.some (Jvm.ClassFile.FieldType.array Jvm.ClassFile.FieldType.byte))).before a0 Z = true := hw _ (List.mem_of_getElem? (i := 182) rfl)
theorem ow183 (hw : HW a0 Z) : (Jvm.Cond.methodLink "com/example/atropos/atropos/io/CurveText" (103 : Nat) my32).before a0 Z = true := hw _ (List.mem_of_getElem? (i := 183) rfl)
theorem ow184 (hw : HW a0 Z) : (Jvm.Cond.declares my32).before a0 Z = true := hw _ (List.mem_of_getElem? (i := 184) rfl)
theorem ow185 (hw : HW a0 Z) : (Jvm.Cond.instanceMethod my32).before a0 Z = true := hw _ (List.mem_of_getElem? (i := 185) rfl)
theorem ow186 (hw : HW a0 Z) : (Jvm.Cond.selects "java/lang/String" my32 my32).before a0 Z = true := hw _ (List.mem_of_getElem? (i := 186) rfl)
theorem ow187 (hw : HW a0 Z) : (Jvm.Cond.code my32 jdk_42_method_92_code (5 : Nat) (Option.some (Jvm.ClassFile.FieldType.object "java/lang/String"))).before a0 Z = true := hw _ (List.mem_of_getElem? (i := 187) rfl)
theorem ow188 (hw : HW a0 Z) : (Jvm.Cond.methodLink "java/lang/String" (505 : Nat) my16).before a0 Z = true := hw _ (List.mem_of_getElem? (i := 188) rfl)
theorem ow189 (hw : HW a0 Z) : (Jvm.Cond.methodLink "java/lang/String" (521 : Nat) my3).before a0 Z = true := hw _ (List.mem_of_getElem? (i := 189) rfl)
theorem ow190 (hw : HW a0 Z) : (Jvm.Cond.static my3).before a0 Z = true := hw _ (List.mem_of_getElem? (i := 190) rfl)
theorem ow191 (hw : HW a0 Z) : (Jvm.Cond.code my3 jdk_42_method_158_code (3 : Nat) (Option.none : Option Jvm.ClassFile.FieldType)).before a0 Z = true := hw _ (List.mem_of_getElem? (i := 191) rfl)
theorem ow192 (hw : HW a0 Z) : (Jvm.Cond.fieldLink "java/lang/String" (1053 : Nat) "jdk/internal/util/Preconditions" "SIOOBE_FORMATTER" "Ljava/util/function/BiFunction;").before a0 Z = true := hw _ (List.mem_of_getElem? (i := 192) rfl)
theorem ow193 (hw : HW a0 Z) : (Jvm.Cond.initialized "jdk/internal/util/Preconditions").before a0 Z = true := hw _ (List.mem_of_getElem? (i := 193) rfl)
theorem ow194 (hw : HW a0 Z) : (Jvm.Cond.methodLink "java/lang/String" (1062 : Nat) my2).before a0 Z = true := hw _ (List.mem_of_getElem? (i := 194) rfl)
theorem ow195 (hw : HW a0 Z) : (Jvm.Cond.static my2).before a0 Z = true := hw _ (List.mem_of_getElem? (i := 195) rfl)
theorem ow196 (hw : HW a0 Z) : (Jvm.Cond.code my2 jdk_41_method_12_code (4 : Nat) (Option.some Jvm.ClassFile.FieldType.int)).before a0 Z = true := hw _ (List.mem_of_getElem? (i := 196) rfl)
theorem ow197 (hw : HW a0 Z) : (Jvm.Cond.methodLink "java/lang/String" (492 : Nat) my4).before a0 Z = true := hw _ (List.mem_of_getElem? (i := 197) rfl)
theorem ow198 (hw : HW a0 Z) : (Jvm.Cond.declares my4).before a0 Z = true := hw _ (List.mem_of_getElem? (i := 198) rfl)
theorem ow199 (hw : HW a0 Z) : (Jvm.Cond.instanceMethod my4).before a0 Z = true := hw _ (List.mem_of_getElem? (i := 199) rfl)
theorem ow200 (hw : HW a0 Z) : (Jvm.Cond.selects "java/lang/String" my4 my4).before a0 Z = true := hw _ (List.mem_of_getElem? (i := 200) rfl)
theorem ow201 (hw : HW a0 Z) : (Jvm.Cond.code my4 jdk_42_method_154_code (1 : Nat) (Option.some Jvm.ClassFile.FieldType.boolean)).before a0 Z = true := hw _ (List.mem_of_getElem? (i := 201) rfl)
theorem ow202 (hw : HW a0 Z) : (Jvm.Cond.methodLink "java/lang/String" (685 : Nat) my31).before a0 Z = true := hw _ (List.mem_of_getElem? (i := 202) rfl)
theorem ow203 (hw : HW a0 Z) : (Jvm.Cond.static my31).before a0 Z = true := hw _ (List.mem_of_getElem? (i := 203) rfl)
theorem ow204 (hw : HW a0 Z) : (Jvm.Cond.code my31 jdk_43_method_47_code (3 : Nat) (Option.some (Jvm.ClassFile.FieldType.object "java/lang/String"))).before a0 Z = true := hw _ (List.mem_of_getElem? (i := 204) rfl)
theorem ow205 (hw : HW a0 Z) : (Jvm.Cond.classLink "java/lang/StringLatin1" (1 : Nat) "java/lang/String").before a0 Z = true := hw _ (List.mem_of_getElem? (i := 205) rfl)
theorem ow206 (hw : HW a0 Z) : (Jvm.Cond.methodLink "java/lang/StringLatin1" (232 : Nat) my26).before a0 Z = true := hw _ (List.mem_of_getElem? (i := 206) rfl)
theorem ow207 (hw : HW a0 Z) : (Jvm.Cond.methodLink "java/lang/StringLatin1" (112 : Nat) my30).before a0 Z = true := hw _ (List.mem_of_getElem? (i := 207) rfl)
theorem ow208 (hw : HW a0 Z) : (Jvm.Cond.instanceMethod my30).before a0 Z = true := hw _ (List.mem_of_getElem? (i := 208) rfl)
theorem ow209 (hw : HW a0 Z) : (Jvm.Cond.code my30 jdk_42_method_151_code (3 : Nat) (Option.none : Option Jvm.ClassFile.FieldType)).before a0 Z = true := hw _ (List.mem_of_getElem? (i := 209) rfl)
theorem ow210 (hw : HW a0 Z) : (Jvm.Cond.stringLink "com/example/atropos/atropos/io/CurveText" (220 : Nat) "...").before a0 Z = true := hw _ (List.mem_of_getElem? (i := 210) rfl)
theorem ow211 (hw : HW a0 Z) : (Jvm.Cond.stringLink "java/lang/String" (7 : Nat) "").before a0 Z = true := hw _ (List.mem_of_getElem? (i := 211) rfl)
end OW
theorem pd0 : parseMethodDescriptor "([CIILjava/lang/Void;)V" = some ⟨[(.array .char), .int, .int, (.object "java/lang/Void")], none⟩ := by decide +kernel
theorem pd1 : parseMethodDescriptor "(IIILjava/util/function/BiFunction;)I" = some ⟨[.int, .int, .int, (.object "java/util/function/BiFunction")], some .int⟩ := by decide +kernel
theorem pd2 : parseMethodDescriptor "(II)I" = some ⟨[.int, .int], some .int⟩ := by decide +kernel
theorem pd3 : parseMethodDescriptor "(III)I" = some ⟨[.int, .int, .int], some .int⟩ := by decide +kernel
theorem pd4 : parseMethodDescriptor "(I)I" = some ⟨[.int], some .int⟩ := by decide +kernel
theorem pd5 : parseMethodDescriptor "([BI)[B" = some ⟨[(.array .byte), .int], some (.array .byte)⟩ := by decide +kernel
theorem pd6 : parseMethodDescriptor "()B" = some ⟨[], some .byte⟩ := by decide +kernel
theorem pd7 : parseMethodDescriptor "(Ljava/lang/String;)V" = some ⟨[(.object "java/lang/String")], none⟩ := by decide +kernel
theorem pd8 : parseMethodDescriptor "([BIB)V" = some ⟨[(.array .byte), .int, .byte], none⟩ := by decide +kernel
theorem pd9 : parseMethodDescriptor "()I" = some ⟨[], some .int⟩ := by decide +kernel
theorem pd10 : parseMethodDescriptor "(I)V" = some ⟨[.int], none⟩ := by decide +kernel
theorem pd11 : parseMethodDescriptor "(ILjava/lang/String;)V" = some ⟨[.int, (.object "java/lang/String")], none⟩ := by decide +kernel
theorem pd12 : parseMethodDescriptor "(Ljava/lang/String;)Ljava/lang/AbstractStringBuilder;" = some ⟨[(.object "java/lang/String")], some (.object "java/lang/AbstractStringBuilder")⟩ := by decide +kernel
theorem pd13 : parseMethodDescriptor "(II)V" = some ⟨[.int, .int], none⟩ := by decide +kernel
theorem pd14 : parseMethodDescriptor "([BII)[B" = some ⟨[(.array .byte), .int, .int], some (.array .byte)⟩ := by decide +kernel
theorem pd15 : parseMethodDescriptor "()[B" = some ⟨[], some (.array .byte)⟩ := by decide +kernel
theorem pd16 : parseMethodDescriptor "()Z" = some ⟨[], some .boolean⟩ := by decide +kernel
theorem pd17 : parseMethodDescriptor "(Ljava/lang/AbstractStringBuilder;Ljava/lang/Void;)V" = some ⟨[(.object "java/lang/AbstractStringBuilder"), (.object "java/lang/Void")], none⟩ := by decide +kernel
theorem pd18 : parseMethodDescriptor "(Ljava/lang/StringBuilder;)V" = some ⟨[(.object "java/lang/StringBuilder")], none⟩ := by decide +kernel
theorem pd19 : parseMethodDescriptor "([BB)V" = some ⟨[(.array .byte), .byte], none⟩ := by decide +kernel
theorem pd20 : parseMethodDescriptor "(III)V" = some ⟨[.int, .int, .int], none⟩ := by decide +kernel
theorem pd21 : parseMethodDescriptor "([BII)Ljava/lang/String;" = some ⟨[(.array .byte), .int, .int], some (.object "java/lang/String")⟩ := by decide +kernel
theorem pd22 : parseMethodDescriptor "()V" = some ⟨[], none⟩ := by decide +kernel
theorem pd23 : parseMethodDescriptor "(Ljava/lang/String;)Ljava/lang/StringBuilder;" = some ⟨[(.object "java/lang/String")], some (.object "java/lang/StringBuilder")⟩ := by decide +kernel
theorem pd24 : parseMethodDescriptor "()Ljava/lang/String;" = some ⟨[], some (.object "java/lang/String")⟩ := by decide +kernel
theorem pd25 : parseMethodDescriptor "(II)Ljava/lang/String;" = some ⟨[.int, .int], some (.object "java/lang/String")⟩ := by decide +kernel
theorem pd26 : parseMethodDescriptor "([CII)V" = some ⟨[(.array .char), .int, .int], none⟩ := by decide +kernel
theorem pd27 : parseMethodDescriptor "([C[CII)V" = some ⟨[(.array .char), (.array .char), .int, .int], none⟩ := by decide +kernel
theorem pd28 : parseMethodDescriptor "([C)V" = some ⟨[(.array .char)], none⟩ := by decide +kernel
theorem pd29 : parseMethodDescriptor "(Ljava/lang/String;)Ljava/lang/String;" = some ⟨[(.object "java/lang/String")], some (.object "java/lang/String")⟩ := by decide +kernel
theorem pd30 : parseMethodDescriptor "(Ljava/lang/Object;)Z" = some ⟨[(.object "java/lang/Object")], some .boolean⟩ := by decide +kernel
theorem pn0 : plainName "java/lang/String" = true := by first | (simp [plainName, overriddenIn]; done) | decide +kernel
theorem pn1 : plainName "jdk/internal/util/Preconditions" = true := by first | (simp [plainName, overriddenIn]; done) | decide +kernel
theorem pn2 : plainName "java/util/Arrays" = true := by first | (simp [plainName, overriddenIn]; done) | decide +kernel
theorem pn3 : plainName "jdk/internal/util/ArraysSupport" = true := by first | (simp [plainName, overriddenIn]; done) | decide +kernel
theorem pn4 : plainName "java/lang/AbstractStringBuilder" = true := by first | (simp [plainName, overriddenIn]; done) | decide +kernel
theorem pn5 : plainName "java/lang/StringBuilder" = true := by first | (simp [plainName, overriddenIn]; done) | decide +kernel
theorem pn6 : plainName "java/lang/StringLatin1" = true := by first | (simp [plainName, overriddenIn]; done) | decide +kernel
theorem pn7 : plainName "com/example/atropos/atropos/io/CurveText" = true := by first | (simp [plainName, overriddenIn]; done) | decide +kernel
theorem pn8 : plainName "com/example/atropos/atropos/io/CurveTextQuotePinLaw" = true := by first | (simp [plainName, overriddenIn]; done) | decide +kernel
def EL0 : List (String × Nat) := [("com/example/atropos/atropos/io/CurveText", 220), ("com/example/atropos/atropos/io/CurveText", 222), ("java/lang/String", 7)]
theorem own_EW {a0 : Array Value} {Z : State} (hw : ∀ d ∈ tables_1, d.before a0 Z = true) : EW Z a0 EL0 := (EW.cons (ow210 hw) (by decide) (EW.cons (ow73 hw) (by decide) (EW.cons (ow211 hw) (by decide) EW.nil)))
theorem own_wS {a0 : Array Value} {Z : State} (hw : ∀ d ∈ tables_1, d.before a0 Z = true) : ∀ a ∈ Bundle.stringAtoms, a.before a0 Z = true := fun d hd => hw d ((by decide +kernel : ∀ d ∈ Bundle.stringAtoms, d ∈ tables_1) d hd)
theorem and255_chars (x : Int32) : ¬ nar .char ((x &&& (255 : Int32)).toUInt32.toUInt16.toUInt32.toInt32) < 0 ∧ ¬ (255 : Int32) < nar .char ((x &&& (255 : Int32)).toUInt32.toUInt16.toUInt32.toInt32) := by
  have t : ∀ k : Fin 256, ¬ nar .char ((Int32.ofNat k.val).toUInt32.toUInt16.toUInt32.toInt32) < 0 ∧ ¬ (255 : Int32) < nar .char ((Int32.ofNat k.val).toUInt32.toUInt16.toUInt32.toInt32) := by decide +kernel
  have h : (x &&& 255).toBitVec.toNat < 256 := by
    simp only [Int32.toBitVec_and, BitVec.toNat_and]
    exact Nat.lt_succ_of_le Nat.and_le_right
  have e : (x &&& 255) = Int32.ofNat (x &&& 255).toBitVec.toNat := by
    apply Int32.toBitVec_inj.mp
    show _ = BitVec.ofNat 32 _
    rw [BitVec.ofNat_toNat]; simp
  rw [e]
  exact t ⟨_, h⟩
theorem own_c255 (x : Int32) : nar .char ((x &&& (255 : Int32)).toUInt32.toUInt16.toUInt32.toInt32) = x &&& (255 : Int32) := by
  have t : ∀ k : Fin 256, nar .char ((Int32.ofNat k.val).toUInt32.toUInt16.toUInt32.toInt32) = Int32.ofNat k.val := by decide +kernel
  have h : (x &&& 255).toBitVec.toNat < 256 := by
    simp only [Int32.toBitVec_and, BitVec.toNat_and]
    exact Nat.lt_succ_of_le Nat.and_le_right
  have e : (x &&& 255) = Int32.ofNat (x &&& 255).toBitVec.toNat := by
    apply Int32.toBitVec_inj.mp
    show _ = BitVec.ofNat 32 _
    rw [BitVec.ofNat_toNat]; simp
  rw [e]
  exact t ⟨_, h⟩
theorem own_up (cs : List Int32) (h : ∀ c ∈ cs, ¬ c < 0 ∧ ¬ (255 : Int32) < c) : ∀ c ∈ cs, ¬ c < 0 ∧ ¬ (65535 : Int32) < c := fun c hc => ⟨(h c hc).1, fun q => (h c hc).2 (by rw [Int32.lt_iff_toInt_lt] at q ⊢; have e1 : (65535 : Int32).toInt = 65535 := rfl; have e2 : (255 : Int32).toInt = 255 := rfl; omega)⟩
/-- the String at b spells the chars cs (each 0 to 255) -/
def StrP (Z : State) (h : Heap) (b : Addr) (cs : List Int32) : Prop := Exa Z h b "java/lang/String" ∧ Fld Z h b "java/lang/String" "coder" "B" (.int 0) ∧ (∀ c ∈ cs, ¬ c < 0 ∧ ¬ (255 : Int32) < c) ∧ cs.length ≤ 4000 ∧ ∃ (t : Addr) (kb : ClassId), Fld Z h b "java/lang/String" "value" "[B" (.ref t) ∧ Arv Z h t kb .byte (Int32.ofNat cs.length) ((cs.map fun c => c.toInt8.toInt32).map Value.int) (.int 0)
theorem StrP.lt {Z : State} {h : Heap} {b : Addr} {cs : List Int32} (F : StrP Z h b cs) : b < h.size := F.1.lt
theorem StrP.ext {Z : State} {h h' : Heap} {b : Addr} {cs : List Int32} (F : StrP Z h b cs) (E : Ext h h') : StrP Z h' b cs := by
  obtain ⟨f1, f2, f3, f4, t, kb, f5, f6⟩ := F
  exact ⟨f1.ext E, f2.ext E, f3, f4, t, kb, f5.ext E, f6.ext E⟩
theorem StrP.exk {Z : State} {h h' : Heap} {b : Addr} {cs : List Int32} (F : StrP Z h b cs) (K : Keep h h' []) : StrP Z h' b cs := by
  obtain ⟨f1, f2, f3, f4, t, kb, f5, f6⟩ := F
  exact ⟨f1.keep K, f2.keep K nin0, f3, f4, t, kb, f5.keep K nin0, f6.keep K nin0⟩
theorem Ext.of_keep {h h' : Heap} (K : Keep h h' []) : Ext h h' := ⟨K.1, fun a c q => K.2.1 a c q nin0⟩
theorem own_safe_null {Z : State} {EL : List (String × Nat)} {vm : Vm} {h : Heap} {a : Addr} (hal : Z.vm.Alike vm) (E : Exa Z h a "java/lang/String") (F : Fld Z h a "java/lang/String" "value" "[B" .null) : Safe Z EL vm h a := fun B => by
  obtain ⟨p, -, u, b, -, q, -, G, hy⟩ := B
  obtain ⟨cS, ⟨⟨s1, s2, s3, ⟨cv, kv, iv, s4, s4'⟩, ⟨cc, kc, ic, s5, s5'⟩, s6, s7, s8, s9, s10, s11, s12, s13, s14, s15, s16⟩, hfS, hcS⟩, ⟨kS, k1, k2, k3⟩, hB, hbyt⟩ := G
  rcases hy with rfl | rfl
  · obtain ⟨cell, cf, k, i, f, h1, h2, h3, h4, h5, h6, h7⟩ := F
    cases h1.symm.trans s1
    obtain ⟨k', e1, -⟩ := State.fieldFound?_setVm (s := Z) hal h2
    have e2 := (show (Wst Z vm h).fieldFound? _ _ _ = _ from e1).symm.trans s4
    simp only [Option.some.injEq, Prod.mk.injEq] at e2
    rw [e2.2.2.2] at h7
    rw [h7] at s8
    cases s8
  · obtain ⟨cell, k, h1, h2, h3, -, -⟩ := E
    cases h1.symm.trans s10
    have e1 : vm.findClass "java/lang/String" = some q.SA.cls := by rw [hal.findClass]; exact h2
    have e2 : vm.findClass "[B" = some q.SA.cls := hB
    obtain ⟨ka, a1, a2⟩ := Vm.findClass_spec e1
    obtain ⟨kb, b1, b2⟩ := Vm.findClass_spec e2
    cases a1.symm.trans b1
    rw [a2] at b2
    exact absurd b2 (by decide)
theorem own_frn {L : List Loc} (h : L = []) (k : Nat) : Fr k L := by rw [h]; exact Fr.nil k
theorem own_eqv {v : Option Value} {p : Prop} [Decidable p] (h : (v = some (.int 1) ∧ p) ∨ (v = some (.int 0) ∧ ¬ p)) : v = some (.int (if p then (1 : Int32) else (0 : Int32))) := by
  rcases h with ⟨rfl, q⟩ | ⟨rfl, q⟩
  · rw [if_pos q]
  · rw [if_neg q]
theorem own_cw {args : Array Value} {s : State} (hsets : ∀ w ∈ jdkStatics_1, w.before args s = true) : Jvm.Lit.compactW.before args s = true := hsets _ (List.mem_of_getElem? (i := 2) rfl)
theorem on_ti {i : Nat} (hi : i ≤ 4000) : (Int32.ofNat i).toInt = i := Int32.toInt_ofNat_small (by omega)
theorem on_lt {i j : Nat} (hi : i ≤ 4000) (hj : j ≤ 4000) : Int32.ofNat i < Int32.ofNat j ↔ i < j := by rw [Int32.lt_iff_toInt_lt, on_ti hi, on_ti hj]; omega
theorem on_eq {i j : Nat} (hi : i ≤ 4000) (hj : j ≤ 4000) : Int32.ofNat i = Int32.ofNat j ↔ i = j := ⟨fun q => by have := congrArg Int32.toInt q; rw [on_ti hi, on_ti hj] at this; omega, fun q => by rw [q]⟩
theorem on_n0 {i : Nat} (hi : i ≤ 4000) : ¬ Int32.ofNat i < 0 := by rw [Int32.lt_iff_toInt_lt, on_ti hi]; have : (0 : Int32).toInt = 0 := rfl; omega
theorem on_add (i j : Nat) : Int32.ofNat i + Int32.ofNat j = Int32.ofNat (i + j) := (Int32.ofNat_add i j).symm
theorem on_inc (i : Nat) : Int32.ofNat i + (1 : Int32) = Int32.ofNat (i + 1) := (Int32.ofNat_add i 1).symm
theorem on_sub {i j : Nat} (h : j ≤ i) (hi : i ≤ 4000) : Int32.ofNat i - Int32.ofNat j = Int32.ofNat (i - j) := by
  have := on_add (i - j) j
  rw [Nat.sub_add_cancel h] at this
  rw [← this, Int32.add_sub_cancel]
theorem on_dec {i : Nat} (h : 0 < i) (hi : i ≤ 4000) : Int32.ofNat i - (1 : Int32) = Int32.ofNat (i - 1) := on_sub (j := 1) h hi
theorem on_decn {i : Nat} (h : 0 < i) (hi : i ≤ 4000) : Int32.ofNat i + (-1 : Int32) = Int32.ofNat (i - 1) := by
  rw [← on_dec h hi, Int32.sub_eq_add_neg]
theorem on_cl {i : Nat} (hi : i ≤ 4000) : (Int32.ofNat i).toNatClampNeg = i := by simp only [Int32.toNatClampNeg]; rw [on_ti hi]; omega
theorem own_ws {a0 : Array Value} {Z : State} (hw : ∀ d ∈ tables_1, d.before a0 Z = true) : ∀ d ∈ StrChars.Road.words, d.before a0 Z = true := fun d hd => hw d ((by decide +kernel : ∀ d ∈ StrChars.Road.words, d ∈ tables_1) d hd)
theorem own_wlen {a0 : Array Value} {Z : State} (hw : ∀ d ∈ tables_1, d.before a0 Z = true) : ∀ d ∈ StrChars.Road.wordsLen, d.before a0 Z = true := fun d hd => hw d ((by decide +kernel : ∀ d ∈ StrChars.Road.wordsLen, d ∈ tables_1) d hd)
theorem own_weq {a0 : Array Value} {Z : State} (hw : ∀ d ∈ tables_1, d.before a0 Z = true) : ∀ d ∈ StrChars.Road.wordsEq, d.before a0 Z = true := fun d hd => hw d ((by decide +kernel : ∀ d ∈ StrChars.Road.wordsEq, d ∈ tables_1) d hd)
theorem d0_0 : decode jdk_42_method_149_code 0 = .ok (.aload_n 0, 1) := by decide +kernel
theorem d0_1 : decode jdk_42_method_149_code 1 = .ok (.invokespecial 1, 3) := by decide +kernel
theorem d0_4 : decode jdk_42_method_149_code 4 = .ok (.iload_n 3, 1) := by decide +kernel
theorem d0_5 : decode jdk_42_method_149_code 5 = .ok (.ifCond .ne 22, 3) := by decide +kernel
theorem d0_8 : decode jdk_42_method_149_code 8 = .ok (.aload_n 0, 1) := by decide +kernel
theorem d0_9 : decode jdk_42_method_149_code 9 = .ok (.ldc 7, 2) := by decide +kernel
theorem d0_11 : decode jdk_42_method_149_code 11 = .ok (.getfield 9, 3) := by decide +kernel
theorem d0_14 : decode jdk_42_method_149_code 14 = .ok (.putfield 9, 3) := by decide +kernel
theorem d0_17 : decode jdk_42_method_149_code 17 = .ok (.aload_n 0, 1) := by decide +kernel
theorem d0_18 : decode jdk_42_method_149_code 18 = .ok (.ldc 7, 2) := by decide +kernel
theorem d0_20 : decode jdk_42_method_149_code 20 = .ok (.getfield 15, 3) := by decide +kernel
theorem d0_23 : decode jdk_42_method_149_code 23 = .ok (.putfield 15, 3) := by decide +kernel
theorem d0_26 : decode jdk_42_method_149_code 26 = .ok (.return_, 1) := by decide +kernel
def Q_rme4 (Z : State) (a : Addr) (b : Addr) (h0 : Heap) (n0 : Nat) (v : Option Value) (h : Heap) (L : List Loc) : Prop := v = none ∧ Fr n0 L ∧ Keep h0 h [a] ∧ StrP Z h a []
theorem ef_rme4 (m : MethodId) (a : Addr) (b : Addr) : entryFrame m #[(.ref a), (.ref b), (.int (0 : Int32)), (.int (0 : Int32)), .null] 6 = mkF m 0 #[.val (.ref a), .val (.ref b), .val (.int (0 : Int32)), .val (.int (0 : Int32)), .val .null, .unset] [] := by first | (simp [entryFrame, mkF, argsToLocals, Value.category]; done) | rfl
set_option maxRecDepth 65536 in
set_option maxHeartbeats 40000000 in
theorem rme4 (l : Launch) (Z : State) (a0 : Array Value) (hw : HW a0 Z) (ws : List Jvm.Cond) (a : Addr) (b : Addr) (h0 : Heap) (n0 : Nat) (O0 : Old Z n0 h0) (Ea : Exa Z h0 a "java/lang/String") (Fv : Fld Z h0 a "java/lang/String" "value" "[B" .null) (Fc : Fld Z h0 a "java/lang/String" "coder" "B" (.int (0 : Int32))) (ga : n0 ≤ a) :
    MetFree l my0 (head1 (Jvm.Cond.code my0 jdk_42_method_149_code 6 none :: ws) ({ frames := 1, cells := 4, slots := 8, locals := 12 } : Room)) (fun aa U => aa = #[(.ref a), (.ref b), (.int (0 : Int32)), (.int (0 : Int32)), .null] ∧ Z.Warmed39 U.vm ∧ U.heap = h0 ∧ CHv Z EL0 U.vm h0) (fun _ _ _ _ _ => True) (fun _ U o U' => ∃ v L, o = .returned v ∧ Q_rme4 Z a b h0 n0 v U'.heap L ∧ CHr Z EL0 U.vm U.heap U'.vm U'.heap ∧ ReturnedEndW U o U' L ({ frames := 1, cells := 4, slots := 8, locals := 12 } : Room).cells ({ frames := 1, cells := 4, slots := 8, locals := 12 } : Room).slots) := by
  refine MetFree.of_bodySF (plainFor_of_name pn0) hisR ?_
  intro p e s m args below meth c s₁ Bd hml0 hP hK
  obtain ⟨rfl, hZ, hh, hCH⟩ := hP
  have hx := Bd.exec
  have hby := Bd.bytes
  have B := fun {pc : Nat} {r} (h : decode jdk_42_method_149_code pc = r) => hb hby h
  have hml : c.maxLocals = 6 := hml0
  have hown : s.vm.findClass "java/lang/String" = some m.cls := findClass_of_methodNamed Bd.named
  have hnm := (name_of_methodNamed Bd.named Bd.method).1
  have X0 : Stand p l e ({ frames := 1, cells := 4, slots := 8, locals := 12 } : Room) (s.setVm s.vm) m #[(.ref a), (.ref b), (.int (0 : Int32)), (.int (0 : Int32)), .null] below meth c s₁ [] 0 0 := Stand.of_body Bd
  have e0 : s₁.heap = h0 := by rw [← hh, Bd.state]; rfl
  have N0 := Fr.nil n0
  have K0 : Keep h0 h0 [a] := Keep.refl _ _
  have pre0 : ∀ tgt, Steps p.tables e below (s₁.setTop (mkF m 0 #[.val (.ref a), .val (.ref b), .val (.int (0 : Int32)), .val (.int (0 : Int32)), .val .null, .unset] [])) tgt → Steps p.tables e below (s₁.setTop (entryFrame m #[(.ref a), (.ref b), (.int (0 : Int32)), (.int (0 : Int32)), .null] 6)) tgt := fun tgt kgo => castTop (ef_rme4 m a b) kgo
  have hS0 : s.Since s.vm 0 := (State.WarmedH.refl s).since 0
  have hk0 : 0 ≤ h0.size := Nat.zero_le _
  have CH0 : CHr Z EL0 s.vm h0 s.vm h0 := CHr.refl hCH
  have Ya : Safe Z EL0 s.vm h0 a := own_safe_null hZ.alike Ea Fv
  obtain ⟨T1, X1, e1, st1⟩ := initO X0 hx hZ hown (ow22 hw) (ow23 hw) (ow24 hw) e0 (g := (mkF m 1 #[(VR a), (VR b), (VI 0), (VI 0), (.val .null), .unset] [(.ref a)])) rfl (by rw [hml]; rfl) rfl (B d0_1) (by decide) (W := 0) (by show 2 * 0 + _ ≤ _; exact Nat.le_of_eq rfl) (by decide)
  obtain ⟨b2, T2, h2, kk2, d2, k2, X2, e2, E2, hS2, hk2, hZ2, hown2, Ex2, Fc2, Fv2, Av2, -, -, CR2, -, sn2, st2⟩ := ldcCH X1 hx hZ hown (ow211 hw) (own_wS hw) e1 hS0 hk0 (own_EW hw) (by decide) CH0.1 (vs := []) (z := (0 : Int32)) ⟨by decide, rfl⟩ (by decide) (by decide) (g := (mkF m 9 #[(VR a), (VR b), (VI 0), (VI 0), (.val .null), .unset] [(.ref a)])) rfl (B d0_9) (n := 0) (by decide) (by decide) (by decide) (by decide)
  have Ol3 := O0.ext E2
  have K3 := K0.ext E2
  have CH3 := CH0.trans CR2
  have f4 := (CHr.safe CR2 Ea.lt Ya)
  have sq2_0 := sn2 a f4
  obtain ⟨T5, X5, e5, st5⟩ := getF X2 hx hZ2 hown2 (host := "") (Or.inl (ow39 hw)) Via.refl e2 Fv2 (g := (mkF m 11 #[(VR a), (VR b), (VI 0), (VI 0), (.val .null), .unset] [(.ref b2), (.ref a)])) rfl rfl (B d0_11)
  have f6 := (Ea.ext E2)
  have f7 := (Fv.ext E2)
  obtain ⟨T8, h8, X8, e8, W8, st8⟩ := putF X5 hx hZ2 hown2 (host := "") (Or.inl (ow39 hw)) Via.refl e5 f7 f6 (Or.inr ⟨(ow40 hw), rfl, hnm⟩) (ow13 hw) (ty := (.array .byte)) (by decide) rfl rfl (g := (mkF m 14 #[(VR a), (VR b), (VI 0), (VI 0), (.val .null), .unset] [(.ref d2), (.ref a)])) rfl rfl (B d0_14)
  have Fw8 := f7.same W8
  have CH9 := CH3.trans (CHr.wr W8 f4 CH3.1)
  have hk9 := Nat.le_trans hk2 (Keep.of_wr W8).1
  have N10 := Fr.snoc X8 N0 ga
  have Ol10 := Ol3.wr W8 ga
  have K10 := K3.wr W8 (Or.inl (List.mem_of_getElem? (i := 0) rfl))
  have f11 := (f6.wr W8)
  have f12 := (Ex2.wr W8)
  have f13 := (Av2.other W8 (Ne.symm sq2_0.2))
  obtain ⟨b14, T14, h14, kk14, d14, k14, X14, e14, E14, hS14, hk14, hZ14, hown14, Ex14, Fc14, Fv14, Av14, -, -, CR14, -, sn14, st14⟩ := ldcCH X8 hx hZ2 hown2 (ow211 hw) (own_wS hw) e8 hS2 hk9 (own_EW hw) (by decide) CH9.1 (vs := []) (z := (0 : Int32)) ⟨by decide, rfl⟩ (by decide) (by decide) (g := (mkF m 18 #[(VR a), (VR b), (VI 0), (VI 0), (.val .null), .unset] [(.ref a)])) rfl (B d0_18) (n := 0) (by decide) (by decide) (by decide) (by decide)
  have Ol15 := Ol10.ext E14
  have K15 := K10.ext E14
  have CH15 := CH9.trans CR14
  have f16 := (CHr.safe CR14 f11.lt (Safe.wr W8 f4 CH3.1 f4))
  have sq14_0 := sn14 a f16
  obtain ⟨T17, X17, e17, st17⟩ := getF X14 hx hZ14 hown14 (host := "") (Or.inl (ow37 hw)) Via.refl e14 Fc14 (g := (mkF m 20 #[(VR a), (VR b), (VI 0), (VI 0), (.val .null), .unset] [(.ref b14), (.ref a)])) rfl rfl (B d0_20)
  have f18 := (f11.ext E14)
  have f19 := (((Fc.ext E2).other W8 (Or.inr (slot_ne (Or.inr (ow38 hw)) (Or.inr (ow40 hw)) (by decide) (t := .byte) (t' := (.array .byte)) (by decide) (by decide)))).ext E14)
  obtain ⟨T20, h20, X20, e20, W20, st20⟩ := putFN X17 hx hZ14 hown14 (ow37 hw) Via.refl e17 f19 f18 (Or.inr ⟨(ow38 hw), rfl, hnm⟩) (ow13 hw) (ty := .byte) (v' := (.int (nar .byte 0))) (by decide) rfl (fits_nar_byte _) (g := (mkF m 23 #[(VR a), (VR b), (VI 0), (VI 0), (.val .null), .unset] [(.int 0), (.ref a)])) rfl rfl (B d0_23)
  have Fw20 := f19.same W20
  have CH21 := CH15.trans (CHr.wr W20 f16 CH15.1)
  have hk21 := Nat.le_trans hk14 (Keep.of_wr W20).1
  have N22 := Fr.snoc X20 N10 ga
  have Ol22 := Ol15.wr W20 ga
  have K22 := K15.wr W20 (Or.inl (List.mem_of_getElem? (i := 0) rfl))
  have f23 := (f18.wr W20)
  have f24 := ((Fw8.ext E14).other W20 (Or.inr (slot_ne (Or.inr (ow40 hw)) (Or.inr (ow38 hw)) (by decide) (t := (.array .byte)) (t' := .byte) (by decide) (by decide))))
  have f25 := ((f13.ext E14).other W20 (Ne.symm sq2_0.2))
  obtain ⟨fs, hretL, hrun, hended, hEnd⟩ := Stand.leaveW X20 hS14 (by rw [e20]; exact hk21) (v := none) (fun _ => rfl)
  have hCf : CHr Z EL0 s.vm s.heap T20.vm T20.heap := by rw [hh, e20]; exact CH21.trans (CHv.at X20 hZ14 (own_EW hw) CH21.1)
  refine ⟨_, _, pre0 _ ?_, hrun, hended, _, _, rfl, ?_, hCf, hEnd.1, hEnd.2.1, hEnd.2.2.1, hEnd.2.2.2.mono (by decide) (by decide)⟩
  · refine XS.aloadN X0.here hx rfl (B d0_0) rfl rfl ?_
    refine st1 _ ?_
    show GO p e below T1 (mkF m 4 #[(VR a), (VR b), (VI 0), (VI 0), (.val .null), .unset] []) _
    refine XS.iloadN X1.here hx rfl (B d0_4) rfl ?_
    refine XS.ifNo X1.here hx rfl (B d0_5) rfl ((if0 _ _).trans (teq (by decide : (0 : Int32) = (0 : Int32))).2) ?_
    show GO p e below T1 (mkF m 8 #[(VR a), (VR b), (VI 0), (VI 0), (.val .null), .unset] []) _
    refine XS.aloadN X1.here hx rfl (B d0_8) rfl rfl ?_
    refine st2 _ ?_
    show GO p e below T2 (mkF m 11 #[(VR a), (VR b), (VI 0), (VI 0), (.val .null), .unset] [(.ref b2), (.ref a)]) _
    refine st5 _ ?_
    show GO p e below T5 (mkF m 14 #[(VR a), (VR b), (VI 0), (VI 0), (.val .null), .unset] [(.ref d2), (.ref a)]) _
    refine st8 _ ?_
    show GO p e below T8 (mkF m 17 #[(VR a), (VR b), (VI 0), (VI 0), (.val .null), .unset] []) _
    refine XS.aloadN X8.here hx rfl (B d0_17) rfl rfl ?_
    refine st14 _ ?_
    show GO p e below T14 (mkF m 20 #[(VR a), (VR b), (VI 0), (VI 0), (.val .null), .unset] [(.ref b14), (.ref a)]) _
    refine st17 _ ?_
    show GO p e below T17 (mkF m 23 #[(VR a), (VR b), (VI 0), (VI 0), (.val .null), .unset] [(.int 0), (.ref a)]) _
    refine st20 _ ?_
    show GO p e below T20 (mkF m 26 #[(VR a), (VR b), (VI 0), (VI 0), (.val .null), .unset] []) _
    exact X20.returnOut hx Bd.returns (B d0_26) hretL
  · show Q_rme4 Z a b h0 n0 _ T20.heap _
    rw [e20]
    exact ⟨rfl, N22, K22, f23, Fw20, (fun _ q => nomatch q), Nat.zero_le _, d2, k2, f24, f25⟩
theorem d1_0 : decode jdk_42_method_3_code 0 = .ok (.aload_n 0, 1) := by decide +kernel
theorem d1_1 : decode jdk_42_method_3_code 1 = .ok (.aload_n 1, 1) := by decide +kernel
theorem d1_2 : decode jdk_42_method_3_code 2 = .ok (.iconst 0, 1) := by decide +kernel
theorem d1_3 : decode jdk_42_method_3_code 3 = .ok (.aload_n 1, 1) := by decide +kernel
theorem d1_4 : decode jdk_42_method_3_code 4 = .ok (.arraylength, 1) := by decide +kernel
theorem d1_5 : decode jdk_42_method_3_code 5 = .ok (.aconst_null, 1) := by decide +kernel
theorem d1_6 : decode jdk_42_method_3_code 6 = .ok (.invokespecial 27, 3) := by decide +kernel
theorem d1_9 : decode jdk_42_method_3_code 9 = .ok (.return_, 1) := by decide +kernel
def Q_rme1 (Z : State) (a : Addr) (b : Addr) (kb : ClassId) (h0 : Heap) (n0 : Nat) (v : Option Value) (h : Heap) (L : List Loc) : Prop := v = none ∧ Fr n0 L ∧ Keep h0 h [a] ∧ StrP Z h a []
theorem ef_rme1 (m : MethodId) (a : Addr) (b : Addr) : entryFrame m #[(.ref a), (.ref b)] 2 = mkF m 0 #[.val (.ref a), .val (.ref b)] [] := by first | (simp [entryFrame, mkF, argsToLocals, Value.category]; done) | rfl
set_option maxRecDepth 65536 in
set_option maxHeartbeats 40000000 in
theorem rme1 (l : Launch) (Z : State) (a0 : Array Value) (hw : HW a0 Z) (ws : List Jvm.Cond) (a : Addr) (b : Addr) (kb : ClassId) (h0 : Heap) (n0 : Nat) (O0 : Old Z n0 h0) (Ea : Exa Z h0 a "java/lang/String") (Fv : Fld Z h0 a "java/lang/String" "value" "[B" .null) (Fc : Fld Z h0 a "java/lang/String" "coder" "B" (.int (0 : Int32))) (ga : n0 ≤ a) (Ab : Arv Z h0 b kb .char (0 : Int32) [] (.int (0 : Int32))) :
    MetFree l my1 (head1 (Jvm.Cond.code my1 jdk_42_method_3_code 2 none :: ws) ({ frames := 2, cells := 4, slots := 8, locals := 29 } : Room)) (fun aa U => aa = #[(.ref a), (.ref b)] ∧ Z.Warmed39 U.vm ∧ U.heap = h0 ∧ CHv Z EL0 U.vm h0) (fun _ _ _ _ _ => True) (fun _ U o U' => ∃ v L, o = .returned v ∧ Q_rme1 Z a b kb h0 n0 v U'.heap L ∧ CHr Z EL0 U.vm U.heap U'.vm U'.heap ∧ ReturnedEndW U o U' L ({ frames := 2, cells := 4, slots := 8, locals := 29 } : Room).cells ({ frames := 2, cells := 4, slots := 8, locals := 29 } : Room).slots) := by
  refine MetFree.of_bodySF (plainFor_of_name pn0) hisR ?_
  intro p e s m args below meth c s₁ Bd hml0 hP hK
  obtain ⟨rfl, hZ, hh, hCH⟩ := hP
  have hx := Bd.exec
  have hby := Bd.bytes
  have B := fun {pc : Nat} {r} (h : decode jdk_42_method_3_code pc = r) => hb hby h
  have hml : c.maxLocals = 2 := hml0
  have hown : s.vm.findClass "java/lang/String" = some m.cls := findClass_of_methodNamed Bd.named
  have hnm := (name_of_methodNamed Bd.named Bd.method).1
  have X0 : Stand p l e ({ frames := 2, cells := 4, slots := 8, locals := 29 } : Room) (s.setVm s.vm) m #[(.ref a), (.ref b)] below meth c s₁ [] 0 0 := Stand.of_body Bd
  have e0 : s₁.heap = h0 := by rw [← hh, Bd.state]; rfl
  have N0 := Fr.nil n0
  have K0 : Keep h0 h0 [a] := Keep.refl _ _
  have pre0 : ∀ tgt, Steps p.tables e below (s₁.setTop (mkF m 0 #[.val (.ref a), .val (.ref b)] [])) tgt → Steps p.tables e below (s₁.setTop (entryFrame m #[(.ref a), (.ref b)] 2)) tgt := fun tgt kgo => castTop (ef_rme1 m a b) kgo
  have hS0 : s.Since s.vm 0 := (State.WarmedH.refl s).since 0
  have hk0 : 0 ≤ h0.size := Nat.zero_le _
  have CH0 : CHr Z EL0 s.vm h0 s.vm h0 := CHr.refl hCH
  obtain ⟨cl1, Ar1, q1, S1, M1, H1, G1⟩ := id Ab
  obtain ⟨_, _, ⟨T2, L2, k2, n2⟩, -, Xr2, hSr2, hgr2, ⟨Lc2, hQ2, l2, y2, z2, CR2⟩, st2⟩ := X0.specialBackS hx (y := my0) rfl hown (mvT hZ (ow18 hw)) (mvT hZ (ow19 hw)) (mvT hZ (ow21 hw)) (by decide) (backOfSH (W := 0) (rme4 l Z a0 hw [] a b  h0 n0 O0 Ea Fv Fc ga) hZ (ow21 hw) (ow14 hw) (by decide) (by decide) (own_EW hw) CH0.1) (g := (mkF m 6 #[(VR a), (VR b)] [.null, (.int 0), (.int 0), (.ref b), (.ref a)])) rfl (by rw [hml]; rfl) (Steps.refl _) (a := a) (argsL := [(.ref b), (.int 0), (.int 0), .null]) (rest := []) (lenOf pd0 rfl) rfl (w0 rfl rfl) (B d1_6) (fun _ _ => ⟨rfl, e0, (by decide : 0 + 4 ≤ _), (by decide : 0 + 8 ≤ _)⟩)
  dsimp only [Pt.U, Pt.locs, Pt.cells, Pt.slots] at Xr2 hSr2 hgr2 l2 y2 z2 CR2 st2 hQ2
  rw [l2, y2, z2] at Xr2
  obtain ⟨X2, hS2, hZ2, hown2⟩ := rebS hS0 (by rw [e0]; exact hk0) Xr2 hSr2 hgr2 hZ hown
  have hk2 : T2.heap.size ≤ T2.heap.size := Nat.le_refl _
  obtain ⟨rfl, Nq2, kp2, Sp2⟩ := hQ2
  have N3 := Fr.app N0 Nq2
  have CH4 := CH0.trans CR2
  have Ol5 := O0.keep kp2 (allS ga all0)
  have K5 := K0.trans kp2 (allS (Or.inl (List.mem_of_getElem? (i := 0) rfl)) all0)
  obtain ⟨fs, hretL, hrun, hended, hEnd⟩ := Stand.leaveW X2 hS2 hk2 (v := none) (fun _ => rfl)
  have hCf : CHr Z EL0 s.vm s.heap T2.vm T2.heap := by rw [hh]; exact CH4.trans (CHv.at X2 hZ2 (own_EW hw) CH4.1)
  refine ⟨_, _, pre0 _ ?_, hrun, hended, _, _, rfl, ?_, hCf, hEnd.1, hEnd.2.1, hEnd.2.2.1, hEnd.2.2.2.mono (by decide) (by decide)⟩
  · refine XS.aloadN X0.here hx rfl (B d1_0) rfl rfl ?_
    refine XS.aloadN X0.here hx rfl (B d1_1) rfl rfl ?_
    refine XS.iconst X0.here hx rfl (B d1_2) ?_
    refine XS.aloadN X0.here hx rfl (B d1_3) rfl rfl ?_
    refine X0.arraylength hx (by rw [e0]; exact Ar1.1) (State.isArrayOf_alike hZ.alike Ar1.2.1) (g := (mkF m 4 #[.val (.ref a), .val (.ref b)] [(.ref b), (.int (0 : Int32)), (.ref b), (.ref a)])) rfl rfl (B d1_4) _ ?_
    rw [len_of S1 M1]
    show GO p e below s₁ (mkF m 5 #[(VR a), (VR b)] [(.int 0), (.int 0), (.ref b), (.ref a)]) _
    refine XS.aconstNull X0.here hx rfl (B d1_5) ?_
    refine st2.trans ?_
    show GO p e below T2 (mkF m 9 #[(VR a), (VR b)] []) _
    exact X2.returnOut hx Bd.returns (B d1_9) hretL
  · show Q_rme1 Z a b kb h0 n0 _ T2.heap _
    exact ⟨rfl, N3, K5, Sp2⟩
theorem d2_0 : decode jdk_41_method_12_code 0 = .ok (.iload_n 0, 1) := by decide +kernel
theorem d2_1 : decode jdk_41_method_12_code 1 = .ok (.ifCond .lt 13, 3) := by decide +kernel
theorem d2_4 : decode jdk_41_method_12_code 4 = .ok (.iload_n 0, 1) := by decide +kernel
theorem d2_5 : decode jdk_41_method_12_code 5 = .ok (.iload_n 1, 1) := by decide +kernel
theorem d2_6 : decode jdk_41_method_12_code 6 = .ok (.if_icmp .gt 8, 3) := by decide +kernel
theorem d2_9 : decode jdk_41_method_12_code 9 = .ok (.iload_n 1, 1) := by decide +kernel
theorem d2_10 : decode jdk_41_method_12_code 10 = .ok (.iload_n 2, 1) := by decide +kernel
theorem d2_11 : decode jdk_41_method_12_code 11 = .ok (.if_icmp .le 11, 3) := by decide +kernel
theorem d2_22 : decode jdk_41_method_12_code 22 = .ok (.iload_n 0, 1) := by decide +kernel
theorem d2_23 : decode jdk_41_method_12_code 23 = .ok (.ireturn, 1) := by decide +kernel
def Q_rmcf (Z : State) (x0 : Int32) (x1 : Int32) (x2 : Int32) (fm : Value) (h0 : Heap) (n0 : Nat) (v : Option Value) (h : Heap) (L : List Loc) : Prop := v = some (.int x0) ∧ Fr n0 L ∧ h = h0
theorem ef_rmcf (m : MethodId) (x0 : Int32) (x1 : Int32) (x2 : Int32) (fm : Value) (rf : fm.isRef = true) : entryFrame m #[(.int x0), (.int x1), (.int x2), fm] 4 = mkF m 0 #[.val (.int x0), .val (.int x1), .val (.int x2), .val fm] [] := by rcases ref_cases rf with rfl | ⟨_, rfl⟩ <;> first | (simp [entryFrame, mkF, argsToLocals, Value.category]; done) | rfl
set_option maxRecDepth 65536 in
set_option maxHeartbeats 40000000 in
theorem rmcf (l : Launch) (Z : State) (a0 : Array Value) (hw : HW a0 Z) (ws : List Jvm.Cond) (x0 : Int32) (x1 : Int32) (x2 : Int32) (fm : Value) (h0 : Heap) (n0 : Nat) (O0 : Old Z n0 h0) (hb1 : ¬ x0 < (0 : Int32)) (hb2 : ¬ x1 < x0) (hb3 : ¬ x2 < x1) (rf : fm.isRef = true) :
    MetFree l my2 (head1 (Jvm.Cond.code my2 jdk_41_method_12_code 4 (some .int) :: ws) ({ frames := 0, cells := 0, slots := 0, locals := 0 } : Room)) (fun aa U => aa = #[(.int x0), (.int x1), (.int x2), fm] ∧ Z.Warmed39 U.vm ∧ U.heap = h0) (fun _ _ _ _ _ => True) (fun _ U o U' => ∃ v L, o = .returned v ∧ Q_rmcf Z x0 x1 x2 fm h0 n0 v U'.heap L ∧ FrameEnd U o U' L ({ frames := 0, cells := 0, slots := 0, locals := 0 } : Room).cells ({ frames := 0, cells := 0, slots := 0, locals := 0 } : Room).slots) := by
  refine MetFree.of_bodySF (plainFor_of_name pn1) hisR ?_
  intro p e s m args below meth c s₁ Bd hml0 hP hK
  obtain ⟨rfl, hZ, hh⟩ := hP
  have hx := Bd.exec
  have hby := Bd.bytes
  have B := fun {pc : Nat} {r} (h : decode jdk_41_method_12_code pc = r) => hb hby h
  have hml : c.maxLocals = 4 := hml0
  have hown : s.vm.findClass "jdk/internal/util/Preconditions" = some m.cls := findClass_of_methodNamed Bd.named
  have hnm := (name_of_methodNamed Bd.named Bd.method).1
  have X0 : Stand p l e ({ frames := 0, cells := 0, slots := 0, locals := 0 } : Room) s m #[(.int x0), (.int x1), (.int x2), fm] below meth c s₁ [] 0 0 := Stand.of_body Bd
  have e0 : s₁.heap = h0 := by rw [← hh, Bd.state]; rfl
  have N0 := Fr.nil n0
  have K0 : Keep h0 h0 [] := Keep.refl _ _
  have pre0 : ∀ tgt, Steps p.tables e below (s₁.setTop (mkF m 0 #[.val (.int x0), .val (.int x1), .val (.int x2), .val fm] [])) tgt → Steps p.tables e below (s₁.setTop (entryFrame m #[(.int x0), (.int x1), (.int x2), fm] 4)) tgt := fun tgt kgo => castTop (ef_rmcf m x0 x1 x2 fm rf) kgo
  obtain ⟨fs, hretL, hrun, hended, hW, hsame⟩ := X0.leave (v := some (.int x0)) (fun h => by rw [Bd.returns] at h; cases h)
  refine ⟨_, _, pre0 _ ?_, hrun, hended, _, _, rfl, ?_, ⟨_, rfl⟩, hW, hsame.mono (by decide) (by decide)⟩
  · refine XS.iloadN X0.here hx rfl (B d2_0) rfl ?_
    refine XS.ifNo X0.here hx rfl (B d2_1) rfl ((if0 _ _).trans (flt hb1).1) ?_
    show GO p e below s₁ (mkF m 4 #[(VI x0), (VI x1), (VI x2), (.val fm)] []) _
    refine XS.iloadN X0.here hx rfl (B d2_4) rfl ?_
    refine XS.iloadN X0.here hx rfl (B d2_5) rfl ?_
    refine XS.icmpNo X0.here hx rfl (B d2_6) rfl (flt hb2).2.2.1 ?_
    show GO p e below s₁ (mkF m 9 #[(VI x0), (VI x1), (VI x2), (.val fm)] []) _
    refine XS.iloadN X0.here hx rfl (B d2_9) rfl ?_
    refine XS.iloadN X0.here hx rfl (B d2_10) rfl ?_
    refine XS.icmpYes X0.here hx rfl (pc0 := 11) (pc' := 22) rfl (B d2_11) rfl (flt hb3).2.2.2 (by decide) (by decide) ?_
    show GO p e below s₁ (mkF m 22 #[(VI x0), (VI x1), (VI x2), (.val fm)] []) _
    refine XS.iloadN X0.here hx rfl (B d2_22) rfl ?_
    exact retOut X0 hx Bd.returns rfl (Or.inl ⟨rfl, Or.inl rfl, _, rfl⟩) (B d2_23) hretL
  · show Q_rmcf Z x0 x1 x2 fm h0 n0 _ s₁.heap _
    rw [e0]
    exact ⟨rfl, N0, rfl⟩
theorem d3_0 : decode jdk_42_method_158_code 0 = .ok (.iload_n 0, 1) := by decide +kernel
theorem d3_1 : decode jdk_42_method_158_code 1 = .ok (.iload_n 1, 1) := by decide +kernel
theorem d3_2 : decode jdk_42_method_158_code 2 = .ok (.iload_n 2, 1) := by decide +kernel
theorem d3_3 : decode jdk_42_method_158_code 3 = .ok (.getstatic 1053, 3) := by decide +kernel
theorem d3_6 : decode jdk_42_method_158_code 6 = .ok (.invokestatic 1062, 3) := by decide +kernel
theorem d3_9 : decode jdk_42_method_158_code 9 = .ok (.pop, 1) := by decide +kernel
theorem d3_10 : decode jdk_42_method_158_code 10 = .ok (.return_, 1) := by decide +kernel
def Q_rmcb (Z : State) (x0 : Int32) (x1 : Int32) (x2 : Int32) (G1 : Int32) (fm : Value) (h0 : Heap) (n0 : Nat) (v : Option Value) (h : Heap) (L : List Loc) : Prop := v = none ∧ Fr n0 L ∧ h = h0
theorem ef_rmcb (m : MethodId) (x0 : Int32) (x1 : Int32) (x2 : Int32) : entryFrame m #[(.int x0), (.int x1), (.int x2)] 3 = mkF m 0 #[.val (.int x0), .val (.int x1), .val (.int x2)] [] := by first | (simp [entryFrame, mkF, argsToLocals, Value.category]; done) | rfl
set_option maxRecDepth 65536 in
set_option maxHeartbeats 40000000 in
theorem rmcb (l : Launch) (Z : State) (a0 : Array Value) (hw : HW a0 Z) (ws : List Jvm.Cond) (x0 : Int32) (x1 : Int32) (x2 : Int32) (G1 : Int32) (fm : Value) (h0 : Heap) (n0 : Nat) (O0 : Old Z n0 h0) (O2 : Sta Z Z.heap "java/lang/String" "COMPACT_STRINGS" "Z" (.int G1)) (P5 : ¬ (G1 = (0 : Int32))) (O4 : Sta Z Z.heap "jdk/internal/util/Preconditions" "SIOOBE_FORMATTER" "Ljava/util/function/BiFunction;" fm) (rf : fm.isRef = true) (hb1 : ¬ x0 < (0 : Int32)) (hb2 : ¬ x1 < x0) (hb3 : ¬ x2 < x1) :
    MetFree l my3 (head1 (Jvm.Cond.code my3 jdk_42_method_158_code 3 none :: ws) ({ frames := 1, cells := 0, slots := 0, locals := 15 } : Room)) (fun aa U => aa = #[(.int x0), (.int x1), (.int x2)] ∧ Z.Warmed39 U.vm ∧ U.heap = h0) (fun _ _ _ _ _ => True) (fun _ U o U' => ∃ v L, o = .returned v ∧ Q_rmcb Z x0 x1 x2 G1 fm h0 n0 v U'.heap L ∧ FrameEnd U o U' L ({ frames := 1, cells := 0, slots := 0, locals := 15 } : Room).cells ({ frames := 1, cells := 0, slots := 0, locals := 15 } : Room).slots) := by
  refine MetFree.of_bodySF (plainFor_of_name pn0) hisR ?_
  intro p e s m args below meth c s₁ Bd hml0 hP hK
  obtain ⟨rfl, hZ, hh⟩ := hP
  have hx := Bd.exec
  have hby := Bd.bytes
  have B := fun {pc : Nat} {r} (h : decode jdk_42_method_158_code pc = r) => hb hby h
  have hml : c.maxLocals = 3 := hml0
  have hown : s.vm.findClass "java/lang/String" = some m.cls := findClass_of_methodNamed Bd.named
  have hnm := (name_of_methodNamed Bd.named Bd.method).1
  have X0 : Stand p l e ({ frames := 1, cells := 0, slots := 0, locals := 15 } : Room) s m #[(.int x0), (.int x1), (.int x2)] below meth c s₁ [] 0 0 := Stand.of_body Bd
  have e0 : s₁.heap = h0 := by rw [← hh, Bd.state]; rfl
  have N0 := Fr.nil n0
  have K0 : Keep h0 h0 [] := Keep.refl _ _
  have pre0 : ∀ tgt, Steps p.tables e below (s₁.setTop (mkF m 0 #[.val (.int x0), .val (.int x1), .val (.int x2)] [])) tgt → Steps p.tables e below (s₁.setTop (entryFrame m #[(.int x0), (.int x1), (.int x2)] 3)) tgt := fun tgt kgo => castTop (ef_rmcb m x0 x1 x2) kgo
  obtain ⟨T1, X1, e1, st1⟩ := getS2 X0 hx hZ hown (host := "") (Or.inl (ow192 hw)) Via.refl e0 (O4.ext O0.2) (g := (mkF m 3 #[(VI x0), (VI x1), (VI x2)] [(.int x2), (.int x1), (.int x0)])) rfl (B d3_3)
  obtain ⟨_, _, ⟨T2, L2, k2, n2⟩, -, X2, ⟨Lc2, hQ2, l2, y2, z2⟩, st2⟩ := Jvm.LawKit.callS X1 hx (y := my2) hown (mvT hZ (ow194 hw)) (mvT hZ (ow195 hw)) (mvT hZ (ow193 hw)) (mvT hZ (ow196 hw)) (by decide) (backOf (W := 0) (rmcf l Z a0 hw [] x0 x1 x2 fm  h0 n0 O0 hb1 hb2 hb3 rf) hZ (ow196 hw) (ow193 hw) (by decide) (by decide)) (g := (mkF m 6 #[(VI x0), (VI x1), (VI x2)] [fm, (.int x2), (.int x1), (.int x0)])) rfl (by rw [hml]; rfl) (argsL := [(.int x0), (.int x1), (.int x2), fm]) (rest := []) (lenOf pd1 rfl) rfl (w0 rfl rfl) (B d3_6) (fun _ _ => ⟨rfl, e1, (by decide : 0 + 0 ≤ _), (by decide : 0 + 0 ≤ _)⟩)
  dsimp only [Pt.U, Pt.locs, Pt.cells, Pt.slots] at X2 l2 y2 z2 st2 hQ2
  rw [l2, y2, z2] at X2
  obtain ⟨rfl, Nq2, eq2⟩ := hQ2
  have N3 := Fr.app N0 Nq2
  obtain ⟨fs, hretL, hrun, hended, hW, hsame⟩ := X2.leave (v := none) (fun _ => rfl)
  refine ⟨_, _, pre0 _ ?_, hrun, hended, _, _, rfl, ?_, ⟨_, rfl⟩, hW, hsame.mono (by decide) (by decide)⟩
  · refine XS.iloadN X0.here hx rfl (B d3_0) rfl ?_
    refine XS.iloadN X0.here hx rfl (B d3_1) rfl ?_
    refine XS.iloadN X0.here hx rfl (B d3_2) rfl ?_
    refine st1 _ ?_
    show GO p e below T1 (mkF m 6 #[(VI x0), (VI x1), (VI x2)] [fm, (.int x2), (.int x1), (.int x0)]) _
    refine st2 _ ?_
    show GO p e below T2 (mkF m 9 #[(VI x0), (VI x1), (VI x2)] [(.int x0)]) _
    refine XS.pop X2.here hx rfl (B d3_9) rfl rfl ?_
    exact X2.returnOut hx Bd.returns (B d3_10) hretL
  · show Q_rmcb Z x0 x1 x2 G1 fm h0 n0 _ T2.heap _
    rw [eq2]
    exact ⟨rfl, N3, rfl⟩
theorem d4_0 : decode jdk_42_method_154_code 0 = .ok (.getstatic 38, 3) := by decide +kernel
theorem d4_3 : decode jdk_42_method_154_code 3 = .ok (.ifCond .eq 14, 3) := by decide +kernel
theorem d4_6 : decode jdk_42_method_154_code 6 = .ok (.aload_n 0, 1) := by decide +kernel
theorem d4_7 : decode jdk_42_method_154_code 7 = .ok (.getfield 15, 3) := by decide +kernel
theorem d4_10 : decode jdk_42_method_154_code 10 = .ok (.ifCond .ne 7, 3) := by decide +kernel
theorem d4_13 : decode jdk_42_method_154_code 13 = .ok (.iconst 1, 1) := by decide +kernel
theorem d4_14 : decode jdk_42_method_154_code 14 = .ok (.goto 4, 3) := by decide +kernel
theorem d4_18 : decode jdk_42_method_154_code 18 = .ok (.ireturn, 1) := by decide +kernel
def Q_rmil (Z : State) (a : Addr) (G1 : Int32) (h0 : Heap) (n0 : Nat) (v : Option Value) (h : Heap) (L : List Loc) : Prop := v = some (.int (1 : Int32)) ∧ Fr n0 L ∧ h = h0
theorem ef_rmil (m : MethodId) (a : Addr) : entryFrame m #[(.ref a)] 1 = mkF m 0 #[.val (.ref a)] [] := by first | (simp [entryFrame, mkF, argsToLocals, Value.category]; done) | rfl
set_option maxRecDepth 65536 in
set_option maxHeartbeats 40000000 in
theorem rmil (l : Launch) (Z : State) (a0 : Array Value) (hw : HW a0 Z) (ws : List Jvm.Cond) (a : Addr) (G1 : Int32) (h0 : Heap) (n0 : Nat) (O0 : Old Z n0 h0) (O2 : Sta Z Z.heap "java/lang/String" "COMPACT_STRINGS" "Z" (.int G1)) (P5 : ¬ (G1 = (0 : Int32))) (Fc : Fld Z h0 a "java/lang/String" "coder" "B" (.int (0 : Int32))) :
    MetFree l my4 (head1 (Jvm.Cond.code my4 jdk_42_method_154_code 1 (some .boolean) :: ws) ({ frames := 0, cells := 0, slots := 0, locals := 0 } : Room)) (fun aa U => aa = #[(.ref a)] ∧ Z.Warmed39 U.vm ∧ U.heap = h0) (fun _ _ _ _ _ => True) (fun _ U o U' => ∃ v L, o = .returned v ∧ Q_rmil Z a G1 h0 n0 v U'.heap L ∧ FrameEnd U o U' L ({ frames := 0, cells := 0, slots := 0, locals := 0 } : Room).cells ({ frames := 0, cells := 0, slots := 0, locals := 0 } : Room).slots) := by
  refine MetFree.of_bodySF (plainFor_of_name pn0) hisR ?_
  intro p e s m args below meth c s₁ Bd hml0 hP hK
  obtain ⟨rfl, hZ, hh⟩ := hP
  have hx := Bd.exec
  have hby := Bd.bytes
  have B := fun {pc : Nat} {r} (h : decode jdk_42_method_154_code pc = r) => hb hby h
  have hml : c.maxLocals = 1 := hml0
  have hown : s.vm.findClass "java/lang/String" = some m.cls := findClass_of_methodNamed Bd.named
  have hnm := (name_of_methodNamed Bd.named Bd.method).1
  have X0 : Stand p l e ({ frames := 0, cells := 0, slots := 0, locals := 0 } : Room) s m #[(.ref a)] below meth c s₁ [] 0 0 := Stand.of_body Bd
  have e0 : s₁.heap = h0 := by rw [← hh, Bd.state]; rfl
  have N0 := Fr.nil n0
  have K0 : Keep h0 h0 [] := Keep.refl _ _
  have pre0 : ∀ tgt, Steps p.tables e below (s₁.setTop (mkF m 0 #[.val (.ref a)] [])) tgt → Steps p.tables e below (s₁.setTop (entryFrame m #[(.ref a)] 1)) tgt := fun tgt kgo => castTop (ef_rmil m a) kgo
  obtain ⟨T1, X1, e1, st1⟩ := getS2 X0 hx hZ hown (host := "") (Or.inl (ow25 hw)) Via.refl e0 (O2.ext O0.2) (g := (mkF m 0 #[(VR a)] [])) rfl (B d4_0)
  obtain ⟨T2, X2, e2, st2⟩ := getF X1 hx hZ hown (host := "") (Or.inl (ow37 hw)) Via.refl e1 Fc (g := (mkF m 7 #[(VR a)] [(.ref a)])) rfl rfl (B d4_7)
  obtain ⟨fs, hretL, hrun, hended, hW, hsame⟩ := X2.leave (v := some (.int (1 : Int32))) (fun h => by rw [Bd.returns] at h; cases h)
  refine ⟨_, _, pre0 _ ?_, hrun, hended, _, _, rfl, ?_, ⟨_, rfl⟩, hW, hsame.mono (by decide) (by decide)⟩
  · refine st1 _ ?_
    show GO p e below T1 (mkF m 3 #[(VR a)] [(.int G1)]) _
    refine XS.ifNo X1.here hx rfl (B d4_3) rfl ((if0 _ _).trans (feq P5).1) ?_
    show GO p e below T1 (mkF m 6 #[(VR a)] []) _
    refine XS.aloadN X1.here hx rfl (B d4_6) rfl rfl ?_
    refine st2 _ ?_
    show GO p e below T2 (mkF m 10 #[(VR a)] [(.int 0)]) _
    refine XS.ifNo X2.here hx rfl (B d4_10) rfl ((if0 _ _).trans (teq (by decide : (0 : Int32) = (0 : Int32))).2) ?_
    show GO p e below T2 (mkF m 13 #[(VR a)] []) _
    refine XS.iconst X2.here hx rfl (B d4_13) ?_
    refine XS.goto X2.here hx rfl (pc0 := 14) (pc' := 18) rfl (B d4_14) (by decide) (by decide) ?_
    exact retOut X2 hx Bd.returns rfl (Or.inl ⟨rfl, Or.inr (Or.inl rfl), _, rfl⟩) (B d4_18) hretL
  · show Q_rmil Z a G1 h0 n0 _ T2.heap _
    rw [e2]
    exact ⟨rfl, N0, rfl⟩
theorem d5_0 : decode jdk_65_method_131_code 0 = .ok (.iload_n 1, 1) := by decide +kernel
theorem d5_1 : decode jdk_65_method_131_code 1 = .ok (.iload_n 0, 1) := by decide +kernel
theorem d5_2 : decode jdk_65_method_131_code 2 = .ok (.if_icmp .ge 35, 3) := by decide +kernel
theorem d5_37 : decode jdk_65_method_131_code 37 = .ok (.return_, 1) := by decide +kernel
def Q_rmcl (Z : State) (x0 : Int32) (x1 : Int32) (h0 : Heap) (n0 : Nat) (v : Option Value) (h : Heap) (L : List Loc) : Prop := v = none ∧ Fr n0 L ∧ h = h0
theorem ef_rmcl (m : MethodId) (x0 : Int32) (x1 : Int32) : entryFrame m #[(.int x0), (.int x1)] 2 = mkF m 0 #[.val (.int x0), .val (.int x1)] [] := by first | (simp [entryFrame, mkF, argsToLocals, Value.category]; done) | rfl
set_option maxRecDepth 65536 in
set_option maxHeartbeats 40000000 in
theorem rmcl (l : Launch) (Z : State) (a0 : Array Value) (hw : HW a0 Z) (ws : List Jvm.Cond) (x0 : Int32) (x1 : Int32) (h0 : Heap) (n0 : Nat) (O0 : Old Z n0 h0) (hq : ¬ x1 < x0) :
    MetFree l my5 (head1 (Jvm.Cond.code my5 jdk_65_method_131_code 2 none :: ws) ({ frames := 0, cells := 0, slots := 0, locals := 0 } : Room)) (fun aa U => aa = #[(.int x0), (.int x1)] ∧ Z.Warmed39 U.vm ∧ U.heap = h0) (fun _ _ _ _ _ => True) (fun _ U o U' => ∃ v L, o = .returned v ∧ Q_rmcl Z x0 x1 h0 n0 v U'.heap L ∧ FrameEnd U o U' L ({ frames := 0, cells := 0, slots := 0, locals := 0 } : Room).cells ({ frames := 0, cells := 0, slots := 0, locals := 0 } : Room).slots) := by
  refine MetFree.of_bodySF (plainFor_of_name pn2) hisR ?_
  intro p e s m args below meth c s₁ Bd hml0 hP hK
  obtain ⟨rfl, hZ, hh⟩ := hP
  have hx := Bd.exec
  have hby := Bd.bytes
  have B := fun {pc : Nat} {r} (h : decode jdk_65_method_131_code pc = r) => hb hby h
  have hml : c.maxLocals = 2 := hml0
  have hown : s.vm.findClass "java/util/Arrays" = some m.cls := findClass_of_methodNamed Bd.named
  have hnm := (name_of_methodNamed Bd.named Bd.method).1
  have X0 : Stand p l e ({ frames := 0, cells := 0, slots := 0, locals := 0 } : Room) s m #[(.int x0), (.int x1)] below meth c s₁ [] 0 0 := Stand.of_body Bd
  have e0 : s₁.heap = h0 := by rw [← hh, Bd.state]; rfl
  have N0 := Fr.nil n0
  have K0 : Keep h0 h0 [] := Keep.refl _ _
  have pre0 : ∀ tgt, Steps p.tables e below (s₁.setTop (mkF m 0 #[.val (.int x0), .val (.int x1)] [])) tgt → Steps p.tables e below (s₁.setTop (entryFrame m #[(.int x0), (.int x1)] 2)) tgt := fun tgt kgo => castTop (ef_rmcl m x0 x1) kgo
  obtain ⟨fs, hretL, hrun, hended, hW, hsame⟩ := X0.leave (v := none) (fun _ => rfl)
  refine ⟨_, _, pre0 _ ?_, hrun, hended, _, _, rfl, ?_, ⟨_, rfl⟩, hW, hsame.mono (by decide) (by decide)⟩
  · refine XS.iloadN X0.here hx rfl (B d5_0) rfl ?_
    refine XS.iloadN X0.here hx rfl (B d5_1) rfl ?_
    refine XS.icmpYes X0.here hx rfl (pc0 := 2) (pc' := 37) rfl (B d5_2) rfl (flt hq).2.1 (by decide) (by decide) ?_
    show GO p e below s₁ (mkF m 37 #[(VI x0), (VI x1)] []) _
    exact X0.returnOut hx Bd.returns (B d5_37) hretL
  · show Q_rmcl Z x0 x1 h0 n0 _ s₁.heap _
    rw [e0]
    exact ⟨rfl, N0, rfl⟩
theorem own_decl {y : MethodName} {bytes : ByteArray} {maxL : Nat} {ret : Option FieldType} {args : Array Value} {s : State} (hi : (Jvm.Cond.instanceMethod y).before args s = true) (hc : (Jvm.Cond.code y bytes maxL ret).before args s = true) : (Jvm.Cond.declares y).before args s = true := by
  obtain ⟨mk, methM, hnamed, hmethM, hstM, habM⟩ := Cond.instanceMethod_spec hi
  obtain ⟨m2, cM, q1, -, -, -, -, -, -, hsig⟩ := Cond.code_spec hnamed hc
  cases hmethM.symm.trans q1
  simp [Cond.before, Cond.holds, Cond.value, hnamed, hmethM, hstM, hsig]
theorem own_same {y z x : MethodName} {C : String} {args : Array Value} {s : State} (hi : (Jvm.Cond.instanceMethod y).before args s = true) (hs : (Jvm.Cond.selects C x z).before args s = true) (e : z.cls = y.cls) (hy : y.cls ≠ "java/lang/invoke/MethodHandle" ∧ y.cls ≠ "java/lang/invoke/VarHandle") : (Jvm.Cond.sameMethod y.cls y.cls y.name y.desc).before args s = true := by
  obtain ⟨mk, methM, hnamed, hmethM, hstM, habM⟩ := Cond.instanceMethod_spec hi
  have hcn := findClass_of_methodNamed hnamed
  obtain ⟨c2, r2, m2, q1, q2, q3, q4, kP, hkP, hkPi⟩ := Cond.selects_spec hs
  have h3 := findClass_of_methodNamed q3
  rw [e, hcn] at h3
  have e2 : mk.cls = m2.cls := Option.some.inj h3
  rw [← e2] at hkP
  have hf := State.methodFound?_of_named hnamed hy
  obtain ⟨yc, yn, yd⟩ := y
  simp [Cond.before, Cond.holds, Cond.value, hcn, hf, hnamed, hkP, hkPi]
theorem own_shl0 (x : Int32) : x <<< ((0 : Int32) &&& 31) = x := by
  rw [show ((0 : Int32) &&& 31) = 0 from rfl]; simp
theorem own_shr0 (x : Int32) : x >>> ((0 : Int32) &&& 31) = x := by
  rw [show ((0 : Int32) &&& 31) = 0 from rfl]; simp
theorem own_gt {i j : Nat} (h : j < i) (hi : i ≤ 4000) : (0 : Int32) < Int32.ofNat i - Int32.ofNat j := by
  rw [on_sub (by omega) hi]
  exact (on_lt (i := 0) (by omega) (by omega)).mpr (by omega)
theorem own_ngt {i j : Nat} (h : i ≤ j) (hj : j ≤ 4000) : ¬ (0 : Int32) < Int32.ofNat i - Int32.ofNat j := by
  rw [Int32.lt_iff_toInt_lt, Int32.toInt_sub, on_ti (by omega), on_ti hj]
  have e : (0 : Int32).toInt = 0 := rfl
  rw [e, Int.bmod_def]
  split <;> omega
def mx (a b : Int32) : Int32 := if a < b then b else a
theorem own_mx {i j : Nat} (hi : i ≤ 4000) (hj : j ≤ 4000) : mx (Int32.ofNat i) (Int32.ofNat j) = Int32.ofNat (max i j) := by
  unfold mx
  by_cases q : i < j
  · rw [if_pos ((on_lt hi hj).mpr q)]; congr 1; omega
  · rw [if_neg (fun z => q ((on_lt hi hj).mp z))]; congr 1; omega
theorem own_nbig {i : Nat} (h : i ≤ 4000) : ¬ (2147483639 : Int32) < Int32.ofNat i := by
  rw [Int32.lt_iff_toInt_lt, on_ti h]
  have e : (2147483639 : Int32).toInt = 2147483639 := rfl
  omega
theorem own_nemax {i : Nat} (h : i ≤ 4000) : ¬ Int32.ofNat i = (2147483647 : Int32) := fun q => by
  have := congrArg Int32.toInt q
  rw [on_ti h] at this
  have e : (2147483647 : Int32).toInt = 2147483647 := rfl
  omega
theorem own_mnc {w : Option Value} {i j : Nat} {nl : Int32} (hv : w = some (.int (if nl < Int32.ofNat i then nl else Int32.ofNat i))) (hn : nl = Int32.ofNat j) (h : i ≤ j) (hj : j ≤ 4000) : w = some (.int (Int32.ofNat i)) := by
  rw [hv, hn, if_neg (fun q => by have := (on_lt hj (by omega)).mp q; omega)]
theorem own_rg (vs : List Value) (d : Value) (k : Nat) (hk : k ≤ vs.length) : (List.range k).map (fun j => vs.getD j d) = vs.take k := by
  apply List.ext_getElem
  · simp; omega
  · intro j h1 h2
    simp at h1 h2
    simp [List.getD_eq_getElem?_getD, List.getElem?_eq_getElem (show j < vs.length by omega)]
theorem own_padc {vs : List Value} {d : Value} {k n a b : Nat} (ha : a = 0) (hb : b = k) (hl : vs.length ≤ k) (i : Nat) : vs.getD i d = ((List.replicate n d).take a ++ (List.range k).map (fun j => vs.getD j d) ++ (List.replicate n d).drop (a + b)).getD i d := by
  subst ha hb
  simp only [List.take_zero, List.nil_append, Nat.zero_add, List.getD_eq_getElem?_getD]
  by_cases q : i < b
  · rw [List.getElem?_append_left (by simpa using q)]
    simp [q]
  · rw [List.getElem?_append_right (by simp; omega), List.getElem?_eq_none (show vs.length ≤ i by omega)]
    simp only [List.length_map, List.length_range, List.getElem?_drop, List.getElem?_replicate]
    split <;> rfl
theorem own_padg {vs us : List Value} {d : Value} {k a b : Nat} (ha : a = vs.length) (hb : b = us.length) (hk : us.length ≤ k) (i : Nat) : (vs ++ us).getD i d = ((vs ++ List.replicate k d).take a ++ us ++ (vs ++ List.replicate k d).drop (a + b)).getD i d := by
  subst ha hb
  rw [List.take_left, List.drop_append, List.drop_eq_nil_of_le (by omega), List.nil_append, show vs.length + us.length - vs.length = us.length by omega, List.drop_replicate]
  exact (pad_rep (vs ++ us) d (k - us.length) i).symm
theorem own_bl {cs : List Int32} : ((List.map (fun c => c.toInt8.toInt32) cs).map Value.int).length = cs.length := by simp
theorem own_ba (cs ds : List Int32) : ((List.map (fun c => c.toInt8.toInt32) cs).map Value.int) ++ ((List.map (fun c => c.toInt8.toInt32) ds).map Value.int) = ((List.map (fun c => c.toInt8.toInt32) (cs ++ ds)).map Value.int) := by simp
theorem own_bt (cs : List Int32) (k : Nat) : ((List.map (fun c => c.toInt8.toInt32) cs).map Value.int).take k = ((List.map (fun c => c.toInt8.toInt32) (cs.take k)).map Value.int) := by simp [List.map_take]
theorem own_c0 (k : Nat) (hk : k ≤ 4000) : (Int32.ofNat k).toNatClampNeg = k := on_cl hk
theorem own_sub0 (x : Int32) : x - (0 : Int32) = x := by simp
theorem own_crm {w : Option Value} {lk : Int32} {n k : Nat} (hv : w = some (.int (if lk < (Int32.ofNat n - (0 : Int32)) then lk else (Int32.ofNat n - (0 : Int32))))) (hlk : lk = Int32.ofNat k) (h : k < n) (hn : n ≤ 4000) : w = some (.int lk) := by
  rw [hv, own_sub0, if_pos (by rw [hlk]; exact (on_lt (by omega) hn).mpr h)]
theorem own_lit {w : Option Value} {x y : Int32} (h : w = some (.int x)) (e : x = y) : w = some (.int y) := by rw [h, e]
theorem own_nf {y z x : MethodName} {C : String} {args : Array Value} {s : State} (hs : (Jvm.Cond.selects C x z).before args s = true) (e : z.cls = y.cls) : NotFace s y := by
  intro r0 hn
  obtain ⟨c2, r2, m2, q1, q2, q3, q4, kP, hkP, hkPi⟩ := Cond.selects_spec hs
  have h1 := findClass_of_methodNamed hn
  have h3 := findClass_of_methodNamed q3
  rw [e, h1] at h3
  have e2 : r0.cls = m2.cls := Option.some.inj h3
  rw [← e2] at hkP
  exact ⟨kP, hkP, hkPi⟩
theorem d6_0 : decode jdk_29_method_65_code 0 = .ok (.iload_n 0, 1) := by decide +kernel
theorem d6_1 : decode jdk_29_method_65_code 1 = .ok (.iload_n 1, 1) := by decide +kernel
theorem d6_2 : decode jdk_29_method_65_code 2 = .ok (.if_icmp .lt 7, 3) := by decide +kernel
theorem d6_5 : decode jdk_29_method_65_code 5 = .ok (.iload_n 0, 1) := by decide +kernel
theorem d6_6 : decode jdk_29_method_65_code 6 = .ok (.goto 4, 3) := by decide +kernel
theorem d6_9 : decode jdk_29_method_65_code 9 = .ok (.iload_n 1, 1) := by decide +kernel
theorem d6_10 : decode jdk_29_method_65_code 10 = .ok (.ireturn, 1) := by decide +kernel
def Q_rmmax (Z : State) (x0 : Int32) (x1 : Int32) (h0 : Heap) (n0 : Nat) (v : Option Value) (h : Heap) (L : List Loc) : Prop := v = some (.int (mx x0 x1)) ∧ Fr n0 L ∧ h = h0
theorem ef_rmmax (m : MethodId) (x0 : Int32) (x1 : Int32) : entryFrame m #[(.int x0), (.int x1)] 2 = mkF m 0 #[.val (.int x0), .val (.int x1)] [] := by first | (simp [entryFrame, mkF, argsToLocals, Value.category]; done) | rfl
set_option maxRecDepth 65536 in
set_option maxHeartbeats 40000000 in
theorem rmmax (l : Launch) (Z : State) (a0 : Array Value) (hw : HW a0 Z) (ws : List Jvm.Cond) (x0 : Int32) (x1 : Int32) (h0 : Heap) (n0 : Nat) (O0 : Old Z n0 h0) :
    MetFree l my6 (head1 (Jvm.Cond.code my6 jdk_29_method_65_code 2 (some .int) :: ws) ({ frames := 0, cells := 0, slots := 0, locals := 0 } : Room)) (fun aa U => aa = #[(.int x0), (.int x1)] ∧ Z.Warmed39 U.vm ∧ U.heap = h0) (fun _ _ _ _ _ => True) (fun _ U o U' => ∃ v L, o = .returned v ∧ Q_rmmax Z x0 x1 h0 n0 v U'.heap L ∧ FrameEnd U o U' L ({ frames := 0, cells := 0, slots := 0, locals := 0 } : Room).cells ({ frames := 0, cells := 0, slots := 0, locals := 0 } : Room).slots) := by
  refine MetFree.of_bodySF (Jvm.Free.JP.mathPlain rfl (by decide +kernel)) hisR ?_
  intro p e s m args below meth c s₁ Bd hml0 hP hK
  obtain ⟨rfl, hZ, hh⟩ := hP
  have hx := Bd.exec
  have hby := Bd.bytes
  have B := fun {pc : Nat} {r} (h : decode jdk_29_method_65_code pc = r) => hb hby h
  have hml : c.maxLocals = 2 := hml0
  have hown : s.vm.findClass "java/lang/Math" = some m.cls := findClass_of_methodNamed Bd.named
  have hnm := (name_of_methodNamed Bd.named Bd.method).1
  have X0 : Stand p l e ({ frames := 0, cells := 0, slots := 0, locals := 0 } : Room) s m #[(.int x0), (.int x1)] below meth c s₁ [] 0 0 := Stand.of_body Bd
  have e0 : s₁.heap = h0 := by rw [← hh, Bd.state]; rfl
  have N0 := Fr.nil n0
  have K0 : Keep h0 h0 [] := Keep.refl _ _
  have pre0 : ∀ tgt, Steps p.tables e below (s₁.setTop (mkF m 0 #[.val (.int x0), .val (.int x1)] [])) tgt → Steps p.tables e below (s₁.setTop (entryFrame m #[(.int x0), (.int x1)] 2)) tgt := fun tgt kgo => castTop (ef_rmmax m x0 x1) kgo
  have pre1 : ∀ tgt, Steps p.tables e below (s₁.setTop (mkF m 2 #[(VI x0), (VI x1)] [(.int x1), (.int x0)])) tgt → Steps p.tables e below (s₁.setTop (entryFrame m #[(.int x0), (.int x1)] 2)) tgt := by
    intro tgt kgo
    refine pre0 _ ?_
    refine XS.iloadN X0.here hx rfl (B d6_0) rfl ?_
    refine XS.iloadN X0.here hx rfl (B d6_1) rfl ?_
    exact kgo
  by_cases hc2_2 : x0 < x1
  · obtain ⟨fs, hretL, hrun, hended, hW, hsame⟩ := X0.leave (v := some (.int x1)) (fun h => by rw [Bd.returns] at h; cases h)
    refine ⟨_, _, pre1 _ ?_, hrun, hended, _, _, rfl, ?_, ⟨_, rfl⟩, hW, hsame.mono (by decide) (by decide)⟩
    · refine XS.icmpYes X0.here hx rfl (pc0 := 2) (pc' := 9) rfl (B d6_2) rfl (tlt hc2_2).1 (by decide) (by decide) ?_
      show GO p e below s₁ (mkF m 9 #[(VI x0), (VI x1)] []) _
      refine XS.iloadN X0.here hx rfl (B d6_9) rfl ?_
      exact retOut X0 hx Bd.returns rfl (Or.inl ⟨rfl, Or.inl rfl, _, rfl⟩) (B d6_10) hretL
    · show Q_rmmax Z x0 x1 h0 n0 _ s₁.heap _
      rw [e0]
      exact ⟨by simp only [mx, if_pos hc2_2], N0, rfl⟩
  · obtain ⟨fs, hretL, hrun, hended, hW, hsame⟩ := X0.leave (v := some (.int x0)) (fun h => by rw [Bd.returns] at h; cases h)
    refine ⟨_, _, pre1 _ ?_, hrun, hended, _, _, rfl, ?_, ⟨_, rfl⟩, hW, hsame.mono (by decide) (by decide)⟩
    · refine XS.icmpNo X0.here hx rfl (B d6_2) rfl (flt hc2_2).1 ?_
      show GO p e below s₁ (mkF m 5 #[(VI x0), (VI x1)] []) _
      refine XS.iloadN X0.here hx rfl (B d6_5) rfl ?_
      refine XS.goto X0.here hx rfl (pc0 := 6) (pc' := 10) rfl (B d6_6) (by decide) (by decide) ?_
      exact retOut X0 hx Bd.returns rfl (Or.inl ⟨rfl, Or.inl rfl, _, rfl⟩) (B d6_10) hretL
    · show Q_rmmax Z x0 x1 h0 n0 _ s₁.heap _
      rw [e0]
      exact ⟨by simp only [mx, if_neg hc2_2], N0, rfl⟩
theorem d7_0 : decode jdk_29_method_69_code 0 = .ok (.iload_n 0, 1) := by decide +kernel
theorem d7_1 : decode jdk_29_method_69_code 1 = .ok (.iload_n 1, 1) := by decide +kernel
theorem d7_2 : decode jdk_29_method_69_code 2 = .ok (.if_icmp .gt 7, 3) := by decide +kernel
theorem d7_5 : decode jdk_29_method_69_code 5 = .ok (.iload_n 0, 1) := by decide +kernel
theorem d7_6 : decode jdk_29_method_69_code 6 = .ok (.goto 4, 3) := by decide +kernel
theorem d7_9 : decode jdk_29_method_69_code 9 = .ok (.iload_n 1, 1) := by decide +kernel
theorem d7_10 : decode jdk_29_method_69_code 10 = .ok (.ireturn, 1) := by decide +kernel
def Q_rmmin (Z : State) (x0 : Int32) (x1 : Int32) (h0 : Heap) (n0 : Nat) (v : Option Value) (h : Heap) (L : List Loc) : Prop := v = some (.int (if x1 < x0 then x1 else x0)) ∧ Fr n0 L ∧ h = h0
theorem ef_rmmin (m : MethodId) (x0 : Int32) (x1 : Int32) : entryFrame m #[(.int x0), (.int x1)] 2 = mkF m 0 #[.val (.int x0), .val (.int x1)] [] := by first | (simp [entryFrame, mkF, argsToLocals, Value.category]; done) | rfl
set_option maxRecDepth 65536 in
set_option maxHeartbeats 40000000 in
theorem rmmin (l : Launch) (Z : State) (a0 : Array Value) (hw : HW a0 Z) (ws : List Jvm.Cond) (x0 : Int32) (x1 : Int32) (h0 : Heap) (n0 : Nat) (O0 : Old Z n0 h0) :
    MetFree l my7 (head1 (Jvm.Cond.code my7 jdk_29_method_69_code 2 (some .int) :: ws) ({ frames := 0, cells := 0, slots := 0, locals := 0 } : Room)) (fun aa U => aa = #[(.int x0), (.int x1)] ∧ Z.Warmed39 U.vm ∧ U.heap = h0) (fun _ _ _ _ _ => True) (fun _ U o U' => ∃ v L, o = .returned v ∧ Q_rmmin Z x0 x1 h0 n0 v U'.heap L ∧ FrameEnd U o U' L ({ frames := 0, cells := 0, slots := 0, locals := 0 } : Room).cells ({ frames := 0, cells := 0, slots := 0, locals := 0 } : Room).slots) := by
  refine MetFree.of_bodySF (Jvm.Free.JP.mathPlain rfl (by decide +kernel)) hisR ?_
  intro p e s m args below meth c s₁ Bd hml0 hP hK
  obtain ⟨rfl, hZ, hh⟩ := hP
  have hx := Bd.exec
  have hby := Bd.bytes
  have B := fun {pc : Nat} {r} (h : decode jdk_29_method_69_code pc = r) => hb hby h
  have hml : c.maxLocals = 2 := hml0
  have hown : s.vm.findClass "java/lang/Math" = some m.cls := findClass_of_methodNamed Bd.named
  have hnm := (name_of_methodNamed Bd.named Bd.method).1
  have X0 : Stand p l e ({ frames := 0, cells := 0, slots := 0, locals := 0 } : Room) s m #[(.int x0), (.int x1)] below meth c s₁ [] 0 0 := Stand.of_body Bd
  have e0 : s₁.heap = h0 := by rw [← hh, Bd.state]; rfl
  have N0 := Fr.nil n0
  have K0 : Keep h0 h0 [] := Keep.refl _ _
  have pre0 : ∀ tgt, Steps p.tables e below (s₁.setTop (mkF m 0 #[.val (.int x0), .val (.int x1)] [])) tgt → Steps p.tables e below (s₁.setTop (entryFrame m #[(.int x0), (.int x1)] 2)) tgt := fun tgt kgo => castTop (ef_rmmin m x0 x1) kgo
  have pre1 : ∀ tgt, Steps p.tables e below (s₁.setTop (mkF m 2 #[(VI x0), (VI x1)] [(.int x1), (.int x0)])) tgt → Steps p.tables e below (s₁.setTop (entryFrame m #[(.int x0), (.int x1)] 2)) tgt := by
    intro tgt kgo
    refine pre0 _ ?_
    refine XS.iloadN X0.here hx rfl (B d7_0) rfl ?_
    refine XS.iloadN X0.here hx rfl (B d7_1) rfl ?_
    exact kgo
  by_cases hc2_2 : x1 < x0
  · obtain ⟨fs, hretL, hrun, hended, hW, hsame⟩ := X0.leave (v := some (.int x1)) (fun h => by rw [Bd.returns] at h; cases h)
    refine ⟨_, _, pre1 _ ?_, hrun, hended, _, _, rfl, ?_, ⟨_, rfl⟩, hW, hsame.mono (by decide) (by decide)⟩
    · refine XS.icmpYes X0.here hx rfl (pc0 := 2) (pc' := 9) rfl (B d7_2) rfl (tlt hc2_2).2.2.1 (by decide) (by decide) ?_
      show GO p e below s₁ (mkF m 9 #[(VI x0), (VI x1)] []) _
      refine XS.iloadN X0.here hx rfl (B d7_9) rfl ?_
      exact retOut X0 hx Bd.returns rfl (Or.inl ⟨rfl, Or.inl rfl, _, rfl⟩) (B d7_10) hretL
    · show Q_rmmin Z x0 x1 h0 n0 _ s₁.heap _
      rw [e0]
      exact ⟨by simp only [if_pos hc2_2], N0, rfl⟩
  · obtain ⟨fs, hretL, hrun, hended, hW, hsame⟩ := X0.leave (v := some (.int x0)) (fun h => by rw [Bd.returns] at h; cases h)
    refine ⟨_, _, pre1 _ ?_, hrun, hended, _, _, rfl, ?_, ⟨_, rfl⟩, hW, hsame.mono (by decide) (by decide)⟩
    · refine XS.icmpNo X0.here hx rfl (B d7_2) rfl (flt hc2_2).2.2.1 ?_
      show GO p e below s₁ (mkF m 5 #[(VI x0), (VI x1)] []) _
      refine XS.iloadN X0.here hx rfl (B d7_5) rfl ?_
      refine XS.goto X0.here hx rfl (pc0 := 6) (pc' := 10) rfl (B d7_6) (by decide) (by decide) ?_
      exact retOut X0 hx Bd.returns rfl (Or.inl ⟨rfl, Or.inl rfl, _, rfl⟩) (B d7_10) hretL
    · show Q_rmmin Z x0 x1 h0 n0 _ s₁.heap _
      rw [e0]
      exact ⟨by simp only [if_neg hc2_2], N0, rfl⟩
theorem d8_0 : decode jdk_48_method_27_code 0 = .ok (.iload_n 0, 1) := by decide +kernel
theorem d8_1 : decode jdk_48_method_27_code 1 = .ok (.iload_n 1, 1) := by decide +kernel
theorem d8_2 : decode jdk_48_method_27_code 2 = .ok (.iload_n 2, 1) := by decide +kernel
theorem d8_3 : decode jdk_48_method_27_code 3 = .ok (.invokestatic 194, 3) := by decide +kernel
theorem d8_6 : decode jdk_48_method_27_code 6 = .ok (.iadd, 1) := by decide +kernel
theorem d8_7 : decode jdk_48_method_27_code 7 = .ok (.istore_n 3, 1) := by decide +kernel
theorem d8_8 : decode jdk_48_method_27_code 8 = .ok (.iconst 0, 1) := by decide +kernel
theorem d8_9 : decode jdk_48_method_27_code 9 = .ok (.iload_n 3, 1) := by decide +kernel
theorem d8_10 : decode jdk_48_method_27_code 10 = .ok (.if_icmp .ge 11, 3) := by decide +kernel
theorem d8_13 : decode jdk_48_method_27_code 13 = .ok (.iload_n 3, 1) := by decide +kernel
theorem d8_14 : decode jdk_48_method_27_code 14 = .ok (.ldc 200, 2) := by decide +kernel
theorem d8_16 : decode jdk_48_method_27_code 16 = .ok (.if_icmp .gt 5, 3) := by decide +kernel
theorem d8_19 : decode jdk_48_method_27_code 19 = .ok (.iload_n 3, 1) := by decide +kernel
theorem d8_20 : decode jdk_48_method_27_code 20 = .ok (.ireturn, 1) := by decide +kernel
def Q_rmnl (Z : State) (lo : Int32) (lg : Int32) (lp : Int32) (no : Nat) (ng : Nat) (np : Nat) (h0 : Heap) (n0 : Nat) (v : Option Value) (h : Heap) (L : List Loc) : Prop := v = some (.int (Int32.ofNat (no + max ng np))) ∧ Fr n0 L ∧ h = h0
theorem ef_rmnl (m : MethodId) (lo : Int32) (lg : Int32) (lp : Int32) : entryFrame m #[(.int lo), (.int lg), (.int lp)] 4 = mkF m 0 #[.val (.int lo), .val (.int lg), .val (.int lp), .unset] [] := by first | (simp [entryFrame, mkF, argsToLocals, Value.category]; done) | rfl
set_option maxRecDepth 65536 in
set_option maxHeartbeats 40000000 in
theorem rmnl (l : Launch) (Z : State) (a0 : Array Value) (hw : HW a0 Z) (ws : List Jvm.Cond) (lo : Int32) (lg : Int32) (lp : Int32) (no : Nat) (ng : Nat) (np : Nat) (h0 : Heap) (n0 : Nat) (O0 : Old Z n0 h0) (hlo : lo = Int32.ofNat no) (hlg : lg = Int32.ofNat ng) (hlp : lp = Int32.ofNat np) (hbd : no + max ng np ≤ 4000) (h1 : 0 < no + max ng np) :
    MetFree l my8 (head1 (Jvm.Cond.code my8 jdk_48_method_27_code 4 (some .int) :: ws) ({ frames := 1, cells := 0, slots := 0, locals := 14 } : Room)) (fun aa U => aa = #[(.int lo), (.int lg), (.int lp)] ∧ Z.Warmed39 U.vm ∧ U.heap = h0) (fun _ _ _ _ _ => True) (fun _ U o U' => ∃ v L, o = .returned v ∧ Q_rmnl Z lo lg lp no ng np h0 n0 v U'.heap L ∧ FrameEnd U o U' L ({ frames := 1, cells := 0, slots := 0, locals := 14 } : Room).cells ({ frames := 1, cells := 0, slots := 0, locals := 14 } : Room).slots) := by
  refine MetFree.of_bodySF (plainFor_of_name pn3) hisR ?_
  intro p e s m args below meth c s₁ Bd hml0 hP hK
  obtain ⟨rfl, hZ, hh⟩ := hP
  have hx := Bd.exec
  have hby := Bd.bytes
  have B := fun {pc : Nat} {r} (h : decode jdk_48_method_27_code pc = r) => hb hby h
  have hml : c.maxLocals = 4 := hml0
  have hown : s.vm.findClass "jdk/internal/util/ArraysSupport" = some m.cls := findClass_of_methodNamed Bd.named
  have hnm := (name_of_methodNamed Bd.named Bd.method).1
  have X0 : Stand p l e ({ frames := 1, cells := 0, slots := 0, locals := 14 } : Room) s m #[(.int lo), (.int lg), (.int lp)] below meth c s₁ [] 0 0 := Stand.of_body Bd
  have e0 : s₁.heap = h0 := by rw [← hh, Bd.state]; rfl
  have N0 := Fr.nil n0
  have K0 : Keep h0 h0 [] := Keep.refl _ _
  have pre0 : ∀ tgt, Steps p.tables e below (s₁.setTop (mkF m 0 #[.val (.int lo), .val (.int lg), .val (.int lp), .unset] [])) tgt → Steps p.tables e below (s₁.setTop (entryFrame m #[(.int lo), (.int lg), (.int lp)] 4)) tgt := fun tgt kgo => castTop (ef_rmnl m lo lg lp) kgo
  obtain ⟨_, _, ⟨T1, L1, k1, n1⟩, -, X1, ⟨Lc1, hQ1, l1, y1, z1⟩, st1⟩ := Jvm.LawKit.callS X0 hx (y := my6) hown (mvT hZ (ow175 hw)) (mvT hZ (ow176 hw)) (mvT hZ (ow7 hw)) (mvT hZ (ow177 hw)) (by decide) (backOf (W := 1) (rmmax l Z a0 hw [] lg lp  h0 n0 O0 ) hZ (ow177 hw) (ow7 hw) (by decide) (by decide)) (g := (mkF m 3 #[(VI lo), (VI lg), (VI lp), .unset] [(.int lp), (.int lg), (.int lo)])) rfl (by rw [hml]; rfl) (argsL := [(.int lg), (.int lp)]) (rest := [(.int lo)]) (lenOf pd2 rfl) rfl (w0 rfl rfl) (B d8_3) (fun _ _ => ⟨rfl, e0, (by decide : 0 + 0 ≤ _), (by decide : 0 + 0 ≤ _)⟩)
  dsimp only [Pt.U, Pt.locs, Pt.cells, Pt.slots] at X1 l1 y1 z1 st1 hQ1
  rw [l1, y1, z1] at X1
  obtain ⟨rfl, Nq1, eq1⟩ := hQ1
  have N2 := Fr.app N0 Nq1
  have pre3 : ∀ tgt, Steps p.tables e below (T1.setTop (mkF m 8 #[(VI lo), (VI lg), (VI lp), (VI (lo + (mx lg lp)))] [])) tgt → Steps p.tables e below (s₁.setTop (entryFrame m #[(.int lo), (.int lg), (.int lp)] 4)) tgt := by
    intro tgt kgo
    refine pre0 _ ?_
    refine XS.iloadN X0.here hx rfl (B d8_0) rfl ?_
    refine XS.iloadN X0.here hx rfl (B d8_1) rfl ?_
    refine XS.iloadN X0.here hx rfl (B d8_2) rfl ?_
    refine st1 _ ?_
    show GO p e below T1 (mkF m 6 #[(VI lo), (VI lg), (VI lp), .unset] [(.int (mx lg lp)), (.int lo)]) _
    refine XS.iadd X1.here hx rfl (B d8_6) rfl ?_
    refine XS.istoreN X1.here hx rfl (B d8_7) rfl (l' := #[.val (.int lo), .val (.int lg), .val (.int lp), .val (.int (lo + (mx lg lp)))]) rfl ?_
    exact kgo
  obtain ⟨lr, hlr⟩ : ∃ z, z = (lo + (mx lg lp)) := ⟨_, rfl⟩
  have pre4 : ∀ tgt, Steps p.tables e below (T1.setTop (mkF m 8 #[(VI lo), (VI lg), (VI lp), (VI lr)] [])) tgt → Steps p.tables e below (s₁.setTop (entryFrame m #[(.int lo), (.int lg), (.int lp)] 4)) tgt := by
    rw [hlr]; exact pre3
  have hlr' : lr = Int32.ofNat (no + max ng np) := by rw [hlr, hlo, hlg, hlp, own_mx (by omega) (by omega), on_add]
  obtain ⟨fs, hretL, hrun, hended, hW, hsame⟩ := X1.leave (v := some (.int lr)) (fun h => by rw [Bd.returns] at h; cases h)
  refine ⟨_, _, pre4 _ ?_, hrun, hended, _, _, rfl, ?_, ⟨_, rfl⟩, hW, hsame.mono (by decide) (by decide)⟩
  · refine XS.iconst X1.here hx rfl (B d8_8) ?_
    refine XS.iloadN X1.here hx rfl (B d8_9) rfl ?_
    refine XS.icmpNo X1.here hx rfl (B d8_10) rfl (tlt (by rw [hlr']; exact (on_lt (i := 0) (by omega) hbd).mpr h1)).2.1 ?_
    show GO p e below T1 (mkF m 13 #[(VI lo), (VI lg), (VI lp), (VI lr)] []) _
    refine XS.iloadN X1.here hx rfl (B d8_13) rfl ?_
    refine X1.ldcI hx hown (mvT hZ (ow178 hw)) rfl (B d8_14) ?_
    refine XS.icmpNo X1.here hx rfl (B d8_16) rfl (flt (by rw [hlr']; exact own_nbig hbd)).2.2.1 ?_
    show GO p e below T1 (mkF m 19 #[(VI lo), (VI lg), (VI lp), (VI lr)] []) _
    refine XS.iloadN X1.here hx rfl (B d8_19) rfl ?_
    exact retOut X1 hx Bd.returns rfl (Or.inl ⟨rfl, Or.inl rfl, _, rfl⟩) (B d8_20) hretL
  · show Q_rmnl Z lo lg lp no ng np h0 n0 _ T1.heap _
    rw [eq1]
    exact ⟨by rw [hlr'], N2, rfl⟩
theorem d9_0 : decode jdk_68_method_10_code 0 = .ok (.aload_n 0, 1) := by decide +kernel
theorem d9_1 : decode jdk_68_method_10_code 1 = .ok (.getfield 15, 3) := by decide +kernel
theorem d9_4 : decode jdk_68_method_10_code 4 = .ok (.arraylength, 1) := by decide +kernel
theorem d9_5 : decode jdk_68_method_10_code 5 = .ok (.istore_n 2, 1) := by decide +kernel
theorem d9_6 : decode jdk_68_method_10_code 6 = .ok (.iload_n 1, 1) := by decide +kernel
theorem d9_7 : decode jdk_68_method_10_code 7 = .ok (.aload_n 0, 1) := by decide +kernel
theorem d9_8 : decode jdk_68_method_10_code 8 = .ok (.getfield 22, 3) := by decide +kernel
theorem d9_11 : decode jdk_68_method_10_code 11 = .ok (.ishl, 1) := by decide +kernel
theorem d9_12 : decode jdk_68_method_10_code 12 = .ok (.istore_n 3, 1) := by decide +kernel
theorem d9_13 : decode jdk_68_method_10_code 13 = .ok (.iload_n 3, 1) := by decide +kernel
theorem d9_14 : decode jdk_68_method_10_code 14 = .ok (.iload_n 2, 1) := by decide +kernel
theorem d9_15 : decode jdk_68_method_10_code 15 = .ok (.isub, 1) := by decide +kernel
theorem d9_16 : decode jdk_68_method_10_code 16 = .ok (.istore 4, 2) := by decide +kernel
theorem d9_18 : decode jdk_68_method_10_code 18 = .ok (.iload_n 2, 1) := by decide +kernel
theorem d9_19 : decode jdk_68_method_10_code 19 = .ok (.iload 4, 2) := by decide +kernel
theorem d9_21 : decode jdk_68_method_10_code 21 = .ok (.iload_n 2, 1) := by decide +kernel
theorem d9_22 : decode jdk_68_method_10_code 22 = .ok (.iconst 2, 1) := by decide +kernel
theorem d9_23 : decode jdk_68_method_10_code 23 = .ok (.aload_n 0, 1) := by decide +kernel
theorem d9_24 : decode jdk_68_method_10_code 24 = .ok (.getfield 22, 3) := by decide +kernel
theorem d9_27 : decode jdk_68_method_10_code 27 = .ok (.ishl, 1) := by decide +kernel
theorem d9_28 : decode jdk_68_method_10_code 28 = .ok (.iadd, 1) := by decide +kernel
theorem d9_29 : decode jdk_68_method_10_code 29 = .ok (.invokestatic 114, 3) := by decide +kernel
theorem d9_32 : decode jdk_68_method_10_code 32 = .ok (.istore 5, 2) := by decide +kernel
theorem d9_34 : decode jdk_68_method_10_code 34 = .ok (.iload 5, 2) := by decide +kernel
theorem d9_36 : decode jdk_68_method_10_code 36 = .ok (.ldc 39, 2) := by decide +kernel
theorem d9_38 : decode jdk_68_method_10_code 38 = .ok (.if_icmp .ne 13, 3) := by decide +kernel
theorem d9_51 : decode jdk_68_method_10_code 51 = .ok (.iload 5, 2) := by decide +kernel
theorem d9_53 : decode jdk_68_method_10_code 53 = .ok (.aload_n 0, 1) := by decide +kernel
theorem d9_54 : decode jdk_68_method_10_code 54 = .ok (.getfield 22, 3) := by decide +kernel
theorem d9_57 : decode jdk_68_method_10_code 57 = .ok (.ishr, 1) := by decide +kernel
theorem d9_58 : decode jdk_68_method_10_code 58 = .ok (.ireturn, 1) := by decide +kernel
def Q_rmnc (Z : State) (a : Addr) (mc : Int32) (tb : Addr) (kb : ClassId) (vs : List Value) (cp : Nat) (nm : Nat) (h0 : Heap) (n0 : Nat) (v : Option Value) (h : Heap) (L : List Loc) : Prop := v = some (.int (Int32.ofNat (cp + max (nm - cp) (cp + 2)))) ∧ Fr n0 L ∧ h = h0
theorem ef_rmnc (m : MethodId) (a : Addr) (mc : Int32) : entryFrame m #[(.ref a), (.int mc)] 6 = mkF m 0 #[.val (.ref a), .val (.int mc), .unset, .unset, .unset, .unset] [] := by first | (simp [entryFrame, mkF, argsToLocals, Value.category]; done) | rfl
set_option maxRecDepth 65536 in
set_option maxHeartbeats 40000000 in
theorem rmnc (l : Launch) (Z : State) (a0 : Array Value) (hw : HW a0 Z) (ws : List Jvm.Cond) (a : Addr) (mc : Int32) (tb : Addr) (kb : ClassId) (vs : List Value) (cp : Nat) (nm : Nat) (h0 : Heap) (n0 : Nat) (O0 : Old Z n0 h0) (Fv : Fld Z h0 a "java/lang/AbstractStringBuilder" "value" "[B" (.ref tb)) (Fc : Fld Z h0 a "java/lang/AbstractStringBuilder" "coder" "B" (.int (0 : Int32))) (At : Arv Z h0 tb kb .byte (Int32.ofNat cp) vs (.int (0 : Int32))) (hmc : mc = Int32.ofNat nm) (hgr : cp < nm) (hm : nm ≤ 100) (hcp : cp ≤ 100) :
    MetFree l my9 (head1 (Jvm.Cond.code my9 jdk_68_method_10_code 6 (some .int) :: ws) ({ frames := 2, cells := 0, slots := 0, locals := 29 } : Room)) (fun aa U => aa = #[(.ref a), (.int mc)] ∧ Z.Warmed39 U.vm ∧ U.heap = h0) (fun _ _ _ _ _ => True) (fun _ U o U' => ∃ v L, o = .returned v ∧ Q_rmnc Z a mc tb kb vs cp nm h0 n0 v U'.heap L ∧ FrameEnd U o U' L ({ frames := 2, cells := 0, slots := 0, locals := 29 } : Room).cells ({ frames := 2, cells := 0, slots := 0, locals := 29 } : Room).slots) := by
  refine MetFree.of_bodySF (plainFor_of_name pn4) hisR ?_
  intro p e s m args below meth c s₁ Bd hml0 hP hK
  obtain ⟨rfl, hZ, hh⟩ := hP
  have hx := Bd.exec
  have hby := Bd.bytes
  have B := fun {pc : Nat} {r} (h : decode jdk_68_method_10_code pc = r) => hb hby h
  have hml : c.maxLocals = 6 := hml0
  have hown : s.vm.findClass "java/lang/AbstractStringBuilder" = some m.cls := findClass_of_methodNamed Bd.named
  have hnm := (name_of_methodNamed Bd.named Bd.method).1
  have X0 : Stand p l e ({ frames := 2, cells := 0, slots := 0, locals := 29 } : Room) s m #[(.ref a), (.int mc)] below meth c s₁ [] 0 0 := Stand.of_body Bd
  have e0 : s₁.heap = h0 := by rw [← hh, Bd.state]; rfl
  have N0 := Fr.nil n0
  have K0 : Keep h0 h0 [] := Keep.refl _ _
  have pre0 : ∀ tgt, Steps p.tables e below (s₁.setTop (mkF m 0 #[.val (.ref a), .val (.int mc), .unset, .unset, .unset, .unset] [])) tgt → Steps p.tables e below (s₁.setTop (entryFrame m #[(.ref a), (.int mc)] 6)) tgt := fun tgt kgo => castTop (ef_rmnc m a mc) kgo
  obtain ⟨T1, X1, e1, st1⟩ := getF X0 hx hZ hown (host := "") (Or.inl (ow69 hw)) Via.refl e0 Fv (g := (mkF m 1 #[(VR a), (VI mc), .unset, .unset, .unset, .unset] [(.ref a)])) rfl rfl (B d9_1)
  obtain ⟨cl2, Ar2, q2, S2, M2, H2, G2⟩ := id At
  obtain ⟨T3, X3, e3, st3⟩ := getF X1 hx hZ hown (host := "") (Or.inl (ow71 hw)) Via.refl e1 Fc (g := (mkF m 8 #[(VR a), (VI mc), (VI (Int32.ofNat cp)), .unset, .unset, .unset] [(.ref a), (.int mc)])) rfl rfl (B d9_8)
  have pre4 : ∀ tgt, Steps p.tables e below (T3.setTop (mkF m 12 #[(VR a), (VI mc), (VI (Int32.ofNat cp)), .unset, .unset, .unset] [(.int (mc <<< ((0 : Int32) &&& 31)))])) tgt → Steps p.tables e below (s₁.setTop (entryFrame m #[(.ref a), (.int mc)] 6)) tgt := by
    intro tgt kgo
    refine pre0 _ ?_
    refine XS.aloadN X0.here hx rfl (B d9_0) rfl rfl ?_
    refine st1 _ ?_
    show GO p e below T1 (mkF m 4 #[(VR a), (VI mc), .unset, .unset, .unset, .unset] [(.ref tb)]) _
    refine X1.arraylength hx (by rw [e1]; exact Ar2.1) (State.isArrayOf_alike hZ.alike Ar2.2.1) (g := (mkF m 4 #[.val (.ref a), .val (.int mc), .unset, .unset, .unset, .unset] [(.ref tb)])) rfl rfl (B d9_4) _ ?_
    rw [len_of S2 M2]
    show GO p e below T1 (mkF m 5 #[(VR a), (VI mc), .unset, .unset, .unset, .unset] [(.int (Int32.ofNat cp))]) _
    refine XS.istoreN X1.here hx rfl (B d9_5) rfl (l' := #[.val (.ref a), .val (.int mc), .val (.int (Int32.ofNat cp)), .unset, .unset, .unset]) rfl ?_
    refine XS.iloadN X1.here hx rfl (B d9_6) rfl ?_
    refine XS.aloadN X1.here hx rfl (B d9_7) rfl rfl ?_
    refine st3 _ ?_
    show GO p e below T3 (mkF m 11 #[(VR a), (VI mc), (VI (Int32.ofNat cp)), .unset, .unset, .unset] [(.int 0), (.int mc)]) _
    refine XS.ishl X3.here hx rfl (B d9_11) rfl ?_
    exact kgo
  have pre5 : ∀ tgt, Steps p.tables e below (T3.setTop (mkF m 12 #[(VR a), (VI mc), (VI (Int32.ofNat cp)), .unset, .unset, .unset] [(.int mc)])) tgt → Steps p.tables e below (s₁.setTop (entryFrame m #[(.ref a), (.int mc)] 6)) tgt := by
    have q := pre4
    simp only [own_shl0] at q
    exact q
  obtain ⟨T6, X6, e6, st6⟩ := getF X3 hx hZ hown (host := "") (Or.inl (ow71 hw)) Via.refl e3 Fc (g := (mkF m 24 #[(VR a), (VI mc), (VI (Int32.ofNat cp)), (VI mc), (VI (mc - (Int32.ofNat cp))), .unset] [(.ref a), (.int 2), (.int (Int32.ofNat cp)), (.int (mc - (Int32.ofNat cp))), (.int (Int32.ofNat cp))])) rfl rfl (B d9_24)
  have pre7 : ∀ tgt, Steps p.tables e below (T6.setTop (mkF m 28 #[(VR a), (VI mc), (VI (Int32.ofNat cp)), (VI mc), (VI (mc - (Int32.ofNat cp))), .unset] [(.int ((2 : Int32) <<< ((0 : Int32) &&& 31))), (.int (Int32.ofNat cp)), (.int (mc - (Int32.ofNat cp))), (.int (Int32.ofNat cp))])) tgt → Steps p.tables e below (s₁.setTop (entryFrame m #[(.ref a), (.int mc)] 6)) tgt := by
    intro tgt kgo
    refine pre5 _ ?_
    refine XS.istoreN X3.here hx rfl (B d9_12) rfl (l' := #[.val (.ref a), .val (.int mc), .val (.int (Int32.ofNat cp)), .val (.int mc), .unset, .unset]) rfl ?_
    refine XS.iloadN X3.here hx rfl (B d9_13) rfl ?_
    refine XS.iloadN X3.here hx rfl (B d9_14) rfl ?_
    refine XS.isub X3.here hx rfl (B d9_15) rfl ?_
    refine XS.istore X3.here hx rfl (B d9_16) rfl (l' := #[.val (.ref a), .val (.int mc), .val (.int (Int32.ofNat cp)), .val (.int mc), .val (.int (mc - (Int32.ofNat cp))), .unset]) rfl ?_
    refine XS.iloadN X3.here hx rfl (B d9_18) rfl ?_
    refine XS.iload X3.here hx rfl (B d9_19) rfl ?_
    refine XS.iloadN X3.here hx rfl (B d9_21) rfl ?_
    refine XS.iconst X3.here hx rfl (B d9_22) ?_
    refine XS.aloadN X3.here hx rfl (B d9_23) rfl rfl ?_
    refine st6 _ ?_
    show GO p e below T6 (mkF m 27 #[(VR a), (VI mc), (VI (Int32.ofNat cp)), (VI mc), (VI (mc - (Int32.ofNat cp))), .unset] [(.int 0), (.int 2), (.int (Int32.ofNat cp)), (.int (mc - (Int32.ofNat cp))), (.int (Int32.ofNat cp))]) _
    refine XS.ishl X6.here hx rfl (B d9_27) rfl ?_
    exact kgo
  have pre8 : ∀ tgt, Steps p.tables e below (T6.setTop (mkF m 28 #[(VR a), (VI mc), (VI (Int32.ofNat cp)), (VI mc), (VI (mc - (Int32.ofNat cp))), .unset] [(.int 2), (.int (Int32.ofNat cp)), (.int (mc - (Int32.ofNat cp))), (.int (Int32.ofNat cp))])) tgt → Steps p.tables e below (s₁.setTop (entryFrame m #[(.ref a), (.int mc)] 6)) tgt := by
    have q := pre7
    simp only [own_shl0] at q
    exact q
  obtain ⟨_, _, ⟨T9, L9, k9, n9⟩, -, X9, ⟨Lc9, hQ9, l9, y9, z9⟩, st9⟩ := Jvm.LawKit.callS X6 hx (y := my8) hown (mvT hZ (ow171 hw)) (mvT hZ (ow172 hw)) (mvT hZ (ow173 hw)) (mvT hZ (ow174 hw)) (by decide) (backOf (W := 0) (rmnl l Z a0 hw [] (Int32.ofNat cp) (mc - (Int32.ofNat cp)) ((Int32.ofNat cp) + (2 : Int32)) cp (nm - cp) (cp + 2) h0 n0 O0 rfl (by rw [hmc]; exact on_sub (by omega) (by omega)) (on_add cp 2) (by omega) (by omega)) hZ (ow174 hw) (ow173 hw) (by decide) (by decide)) (g := (mkF m 29 #[(VR a), (VI mc), (VI (Int32.ofNat cp)), (VI mc), (VI (mc - (Int32.ofNat cp))), .unset] [(.int ((Int32.ofNat cp) + (2 : Int32))), (.int (mc - (Int32.ofNat cp))), (.int (Int32.ofNat cp))])) rfl (by rw [hml]; rfl) (argsL := [(.int (Int32.ofNat cp)), (.int (mc - (Int32.ofNat cp))), (.int ((Int32.ofNat cp) + (2 : Int32)))]) (rest := []) (lenOf pd3 rfl) rfl (w0 rfl rfl) (B d9_29) (fun _ _ => ⟨rfl, e6, (by decide : 0 + 0 ≤ _), (by decide : 0 + 0 ≤ _)⟩)
  dsimp only [Pt.U, Pt.locs, Pt.cells, Pt.slots] at X9 l9 y9 z9 st9 hQ9
  rw [l9, y9, z9] at X9
  obtain ⟨rfl, Nq9, eq9⟩ := hQ9
  have N10 := Fr.app N0 Nq9
  obtain ⟨T11, X11, e11, st11⟩ := getF X9 hx hZ hown (host := "") (Or.inl (ow71 hw)) Via.refl eq9 Fc (g := (mkF m 54 #[(VR a), (VI mc), (VI (Int32.ofNat cp)), (VI mc), (VI (mc - (Int32.ofNat cp))), (VI (Int32.ofNat (cp + max (nm - cp) (cp + 2))))] [(.ref a), (.int (Int32.ofNat (cp + max (nm - cp) (cp + 2))))])) rfl rfl (B d9_54)
  have pre12 : ∀ tgt, Steps p.tables e below (T11.setTop (mkF m 58 #[(VR a), (VI mc), (VI (Int32.ofNat cp)), (VI mc), (VI (mc - (Int32.ofNat cp))), (VI (Int32.ofNat (cp + max (nm - cp) (cp + 2))))] [(.int ((Int32.ofNat (cp + max (nm - cp) (cp + 2))) >>> ((0 : Int32) &&& 31)))])) tgt → Steps p.tables e below (s₁.setTop (entryFrame m #[(.ref a), (.int mc)] 6)) tgt := by
    intro tgt kgo
    refine pre8 _ ?_
    refine XS.iadd X6.here hx rfl (B d9_28) rfl ?_
    refine st9 _ ?_
    show GO p e below T9 (mkF m 32 #[(VR a), (VI mc), (VI (Int32.ofNat cp)), (VI mc), (VI (mc - (Int32.ofNat cp))), .unset] [(.int (Int32.ofNat (cp + max (nm - cp) (cp + 2))))]) _
    refine XS.istore X9.here hx rfl (B d9_32) rfl (l' := #[.val (.ref a), .val (.int mc), .val (.int (Int32.ofNat cp)), .val (.int mc), .val (.int (mc - (Int32.ofNat cp))), .val (.int (Int32.ofNat (cp + max (nm - cp) (cp + 2))))]) rfl ?_
    refine XS.iload X9.here hx rfl (B d9_34) rfl ?_
    refine X9.ldcI hx hown (mvT hZ (ow179 hw)) rfl (B d9_36) ?_
    refine XS.icmpYes X9.here hx rfl (pc0 := 38) (pc' := 51) rfl (B d9_38) rfl (feq (own_nemax (by omega))).2 (by decide) (by decide) ?_
    show GO p e below T9 (mkF m 51 #[(VR a), (VI mc), (VI (Int32.ofNat cp)), (VI mc), (VI (mc - (Int32.ofNat cp))), (VI (Int32.ofNat (cp + max (nm - cp) (cp + 2))))] []) _
    refine XS.iload X9.here hx rfl (B d9_51) rfl ?_
    refine XS.aloadN X9.here hx rfl (B d9_53) rfl rfl ?_
    refine st11 _ ?_
    show GO p e below T11 (mkF m 57 #[(VR a), (VI mc), (VI (Int32.ofNat cp)), (VI mc), (VI (mc - (Int32.ofNat cp))), (VI (Int32.ofNat (cp + max (nm - cp) (cp + 2))))] [(.int 0), (.int (Int32.ofNat (cp + max (nm - cp) (cp + 2))))]) _
    refine XS.ishr X11.here hx rfl (B d9_57) rfl ?_
    exact kgo
  have pre13 : ∀ tgt, Steps p.tables e below (T11.setTop (mkF m 58 #[(VR a), (VI mc), (VI (Int32.ofNat cp)), (VI mc), (VI (mc - (Int32.ofNat cp))), (VI (Int32.ofNat (cp + max (nm - cp) (cp + 2))))] [(.int (Int32.ofNat (cp + max (nm - cp) (cp + 2))))])) tgt → Steps p.tables e below (s₁.setTop (entryFrame m #[(.ref a), (.int mc)] 6)) tgt := by
    have q := pre12
    simp only [own_shr0] at q
    exact q
  obtain ⟨fs, hretL, hrun, hended, hW, hsame⟩ := X11.leave (v := some (.int (Int32.ofNat (cp + max (nm - cp) (cp + 2))))) (fun h => by rw [Bd.returns] at h; cases h)
  refine ⟨_, _, pre13 _ ?_, hrun, hended, _, _, rfl, ?_, ⟨_, rfl⟩, hW, hsame.mono (by decide) (by decide)⟩
  · exact retOut X11 hx Bd.returns rfl (Or.inl ⟨rfl, Or.inl rfl, _, rfl⟩) (B d9_58) hretL
  · show Q_rmnc Z a mc tb kb vs cp nm h0 n0 _ T11.heap _
    rw [e11]
    exact ⟨rfl, N10, rfl⟩
theorem d10_0 : decode jdk_65_method_121_code 0 = .ok (.iload_n 1, 1) := by decide +kernel
theorem d10_1 : decode jdk_65_method_121_code 1 = .ok (.aload_n 0, 1) := by decide +kernel
theorem d10_2 : decode jdk_65_method_121_code 2 = .ok (.arraylength, 1) := by decide +kernel
theorem d10_3 : decode jdk_65_method_121_code 3 = .ok (.if_icmp .ne 11, 3) := by decide +kernel
theorem d10_14 : decode jdk_65_method_121_code 14 = .ok (.iload_n 1, 1) := by decide +kernel
theorem d10_15 : decode jdk_65_method_121_code 15 = .ok (.newarray .byte, 2) := by decide +kernel
theorem d10_17 : decode jdk_65_method_121_code 17 = .ok (.astore_n 2, 1) := by decide +kernel
theorem d10_18 : decode jdk_65_method_121_code 18 = .ok (.aload_n 0, 1) := by decide +kernel
theorem d10_19 : decode jdk_65_method_121_code 19 = .ok (.iconst 0, 1) := by decide +kernel
theorem d10_20 : decode jdk_65_method_121_code 20 = .ok (.aload_n 2, 1) := by decide +kernel
theorem d10_21 : decode jdk_65_method_121_code 21 = .ok (.iconst 0, 1) := by decide +kernel
theorem d10_22 : decode jdk_65_method_121_code 22 = .ok (.aload_n 0, 1) := by decide +kernel
theorem d10_23 : decode jdk_65_method_121_code 23 = .ok (.arraylength, 1) := by decide +kernel
theorem d10_24 : decode jdk_65_method_121_code 24 = .ok (.iload_n 1, 1) := by decide +kernel
theorem d10_25 : decode jdk_65_method_121_code 25 = .ok (.invokestatic 304, 3) := by decide +kernel
theorem d10_28 : decode jdk_65_method_121_code 28 = .ok (.invokestatic 150, 3) := by decide +kernel
theorem d10_31 : decode jdk_65_method_121_code 31 = .ok (.aload_n 2, 1) := by decide +kernel
theorem d10_32 : decode jdk_65_method_121_code 32 = .ok (.areturn, 1) := by decide +kernel
def Q_rmca (Z : State) (tb : Addr) (nl : Int32) (kb : ClassId) (vs : List Value) (cp : Nat) (nn : Nat) (h0 : Heap) (n0 : Nat) (v : Option Value) (h : Heap) (L : List Loc) : Prop := ∃ (b : Addr) (k' : ClassId), v = some (.ref b) ∧ Fr n0 L ∧ Keep h0 h [] ∧ n0 ≤ b ∧ h0.size ≤ b ∧ Arv Z h b k' .byte (Int32.ofNat nn) vs (.int (0 : Int32))
theorem ef_rmca (m : MethodId) (tb : Addr) (nl : Int32) : entryFrame m #[(.ref tb), (.int nl)] 3 = mkF m 0 #[.val (.ref tb), .val (.int nl), .unset] [] := by first | (simp [entryFrame, mkF, argsToLocals, Value.category]; done) | rfl
set_option maxRecDepth 65536 in
set_option maxHeartbeats 40000000 in
theorem rmca (l : Launch) (Z : State) (a0 : Array Value) (hw : HW a0 Z) (ws : List Jvm.Cond) (tb : Addr) (nl : Int32) (kb : ClassId) (vs : List Value) (cp : Nat) (nn : Nat) (h0 : Heap) (n0 : Nat) (O0 : Old Z n0 h0) (At : Arv Z h0 tb kb .byte (Int32.ofNat cp) vs (.int (0 : Int32))) (hvl : vs.length ≤ cp) (hnl : nl = Int32.ofNat nn) (hlt : cp < nn) (hn : nn ≤ 300) :
    MetFree l my10 (head1 (Jvm.Cond.code my10 jdk_65_method_121_code 3 (some (.array .byte)) :: ws) ({ frames := 1, cells := 1, slots := 300, locals := 60 } : Room)) (fun aa U => aa = #[(.ref tb), (.int nl)] ∧ Z.Warmed39 U.vm ∧ U.heap = h0) (fun _ _ _ _ _ => True) (fun _ U o U' => ∃ v L, o = .returned v ∧ Q_rmca Z tb nl kb vs cp nn h0 n0 v U'.heap L ∧ FrameEnd U o U' L ({ frames := 1, cells := 1, slots := 300, locals := 60 } : Room).cells ({ frames := 1, cells := 1, slots := 300, locals := 60 } : Room).slots) := by
  refine MetFree.of_bodySF (plainFor_of_name pn2) hisR ?_
  intro p e s m args below meth c s₁ Bd hml0 hP hK
  obtain ⟨rfl, hZ, hh⟩ := hP
  have hx := Bd.exec
  have hby := Bd.bytes
  have B := fun {pc : Nat} {r} (h : decode jdk_65_method_121_code pc = r) => hb hby h
  have hml : c.maxLocals = 3 := hml0
  have hown : s.vm.findClass "java/util/Arrays" = some m.cls := findClass_of_methodNamed Bd.named
  have hnm := (name_of_methodNamed Bd.named Bd.method).1
  have X0 : Stand p l e ({ frames := 1, cells := 1, slots := 300, locals := 60 } : Room) s m #[(.ref tb), (.int nl)] below meth c s₁ [] 0 0 := Stand.of_body Bd
  have e0 : s₁.heap = h0 := by rw [← hh, Bd.state]; rfl
  have N0 := Fr.nil n0
  have K0 : Keep h0 h0 [] := Keep.refl _ _
  have pre0 : ∀ tgt, Steps p.tables e below (s₁.setTop (mkF m 0 #[.val (.ref tb), .val (.int nl), .unset] [])) tgt → Steps p.tables e below (s₁.setTop (entryFrame m #[(.ref tb), (.int nl)] 3)) tgt := fun tgt kgo => castTop (ef_rmca m tb nl) kgo
  obtain ⟨cl1, Ar1, q1, S1, M1, H1, G1⟩ := id At
  obtain ⟨T2, h2, k2, X2, e2, E2, A2, st2⟩ := newP (aty := .byte) X0 hx hZ (ow30 hw) e0 (g := (mkF m 15 #[(VR tb), (VI nl), .unset] [(.int nl)])) rfl (B d10_15) rfl (by rw [hnl]; exact on_n0 (by omega)) (cap := 300) (by rw [hnl, on_cl (by omega)]; exact hn) (by decide) (by decide) (by decide)
  obtain ⟨b2, g2⟩ : ∃ z, z = h0.size := ⟨_, rfl⟩
  rw [← g2] at A2 st2
  have V2 : Arv Z h2 b2 k2 .byte nl (List.replicate nn (.int (0 : Int32))) (.int (0 : Int32)) := (Arv.new A2 (by rw [hnl]; exact on_n0 (by omega))).pad (pad_rep [] (.int (0 : Int32)) nn)
  have gn2 : n0 ≤ b2 := Nat.le_trans (own_sz O0) (Nat.le_of_eq g2.symm)
  have sz2 : h0.size ≤ b2 := Nat.le_trans K0.1 (Nat.le_of_eq g2.symm)
  have netb_2 : tb ≠ b2 := Nat.ne_of_lt (Nat.lt_of_lt_of_le At.lt (Nat.le_of_eq g2.symm))
  have Ol3 := O0.ext E2
  have K3 := K0.ext E2
  have f4 := (At.ext E2)
  obtain ⟨cl5, Ar5, q5, S5, M5, H5, G5⟩ := id f4
  obtain ⟨_, _, ⟨T6, L6, k6, n6⟩, -, X6, ⟨Lc6, hQ6, l6, y6, z6⟩, st6⟩ := Jvm.LawKit.callS X2 hx (y := my7) hown (mvT hZ (ow154 hw)) (mvT hZ (ow6 hw)) (mvT hZ (ow7 hw)) (mvT hZ (ow8 hw)) (by decide) (backOf (W := 4) (rmmin l Z a0 hw [] (Int32.ofNat cp) nl  h2 n0 Ol3 ) hZ (ow8 hw) (ow7 hw) (by decide) (by decide)) (g := (mkF m 25 #[(VR tb), (VI nl), (VR b2)] [(.int nl), (.int (Int32.ofNat cp)), (.int 0), (.ref b2), (.int 0), (.ref tb)])) rfl (by rw [hml]; rfl) (argsL := [(.int (Int32.ofNat cp)), (.int nl)]) (rest := [(.int 0), (.ref b2), (.int 0), (.ref tb)]) (lenOf pd2 rfl) rfl (w0 rfl rfl) (B d10_25) (fun _ _ => ⟨rfl, e2, (by decide : 1 + 0 ≤ _), (by decide : 300 + 0 ≤ _)⟩)
  dsimp only [Pt.U, Pt.locs, Pt.cells, Pt.slots] at X6 l6 y6 z6 st6 hQ6
  rw [l6, y6, z6] at X6
  obtain ⟨hv6, Nq6, eq6⟩ := hQ6
  obtain rfl := own_mnc hv6 hnl (by omega) (by omega)
  have N7 := Fr.app N0 Nq6
  obtain ⟨T9, h9, lo9, X9, e9, N9, kp9, V9, st9⟩ := cpA X6 hx hZ hown (ow155 hw) (ow113 hw) (ow111 hw) (ow112 hw) eq6 f4 V2 (Or.inl ⟨rfl, rfl⟩) (us := ((List.range cp).map fun j => vs.getD j (.int (0 : Int32)))) (by decide) (by decide) (on_n0 (by omega)) (by rw [show (0 : Int32).toNatClampNeg = 0 from rfl, on_cl (by omega)]; omega) (by rw [show (0 : Int32).toNatClampNeg = 0 from rfl, on_cl (by omega), hnl, on_cl (by omega)]; omega) (by rw [show (0 : Int32).toNatClampNeg = 0 from rfl, on_cl (by omega)]; simp only [Nat.zero_add]) (by rw [show (0 : Int32).toNatClampNeg = 0 from rfl, on_cl (by omega), List.length_replicate]; omega) N7 gn2 (g := (mkF m 28 #[(VR tb), (VI nl), (VR b2)] [(.int (Int32.ofNat cp)), (.int 0), (.ref b2), (.int 0), (.ref tb)])) rfl (by rw [hml]; rfl) rfl (B d10_28) (by decide) (W := 0) (by show 2 * 0 + _ ≤ _; exact Nat.le_of_eq rfl) (by decide)
  have Ol10 := Ol3.keep kp9 (allS gn2 all0)
  have K10 := K3.trans kp9 (allS (Or.inr sz2) all0)
  have Vc9 : Arv Z h9 b2 k2 .byte nl vs (.int (0 : Int32)) := (V9.pad (fun i => own_padc rfl (on_cl (by omega)) hvl i))
  obtain ⟨fs, hretL, hrun, hended, hW, hsame⟩ := X9.leave (v := some (.ref b2)) (fun h => by rw [Bd.returns] at h; cases h)
  refine ⟨_, _, pre0 _ ?_, hrun, hended, _, _, rfl, ?_, ⟨_, rfl⟩, hW, hsame.mono (by decide) (by decide)⟩
  · refine XS.iloadN X0.here hx rfl (B d10_0) rfl ?_
    refine XS.aloadN X0.here hx rfl (B d10_1) rfl rfl ?_
    refine X0.arraylength hx (by rw [e0]; exact Ar1.1) (State.isArrayOf_alike hZ.alike Ar1.2.1) (g := (mkF m 2 #[.val (.ref tb), .val (.int nl), .unset] [(.ref tb), (.int nl)])) rfl rfl (B d10_2) _ ?_
    rw [len_of S1 M1]
    show GO p e below s₁ (mkF m 3 #[(VR tb), (VI nl), .unset] [(.int (Int32.ofNat cp)), (.int nl)]) _
    refine XS.icmpYes X0.here hx rfl (pc0 := 3) (pc' := 14) rfl (B d10_3) rfl (feq (by rw [hnl, on_eq (by omega) (by omega)]; omega)).2 (by decide) (by decide) ?_
    show GO p e below s₁ (mkF m 14 #[(VR tb), (VI nl), .unset] []) _
    refine XS.iloadN X0.here hx rfl (B d10_14) rfl ?_
    refine st2 _ ?_
    show GO p e below T2 (mkF m 17 #[(VR tb), (VI nl), .unset] [(.ref b2)]) _
    refine XS.astoreN X2.here hx rfl (B d10_17) rfl rfl (l' := #[.val (.ref tb), .val (.int nl), .val (.ref b2)]) rfl ?_
    refine XS.aloadN X2.here hx rfl (B d10_18) rfl rfl ?_
    refine XS.iconst X2.here hx rfl (B d10_19) ?_
    refine XS.aloadN X2.here hx rfl (B d10_20) rfl rfl ?_
    refine XS.iconst X2.here hx rfl (B d10_21) ?_
    refine XS.aloadN X2.here hx rfl (B d10_22) rfl rfl ?_
    refine X2.arraylength hx (by rw [e2]; exact Ar5.1) (State.isArrayOf_alike hZ.alike Ar5.2.1) (g := (mkF m 23 #[.val (.ref tb), .val (.int nl), .val (.ref b2)] [(.ref tb), (.int (0 : Int32)), (.ref b2), (.int (0 : Int32)), (.ref tb)])) rfl rfl (B d10_23) _ ?_
    rw [len_of S5 M5]
    show GO p e below T2 (mkF m 24 #[(VR tb), (VI nl), (VR b2)] [(.int (Int32.ofNat cp)), (.int 0), (.ref b2), (.int 0), (.ref tb)]) _
    refine XS.iloadN X2.here hx rfl (B d10_24) rfl ?_
    refine st6 _ ?_
    show GO p e below T6 (mkF m 28 #[(VR tb), (VI nl), (VR b2)] [(.int (Int32.ofNat cp)), (.int 0), (.ref b2), (.int 0), (.ref tb)]) _
    refine st9 _ ?_
    show GO p e below T9 (mkF m 31 #[(VR tb), (VI nl), (VR b2)] []) _
    refine XS.aloadN X9.here hx rfl (B d10_31) rfl rfl ?_
    exact retOut X9 hx Bd.returns rfl (Or.inr (Or.inr (Or.inr (Or.inr ⟨rfl, rfl, rfl⟩)))) (B d10_32) hretL
  · show Q_rmca Z tb nl kb vs cp nn h0 n0 _ T9.heap _
    rw [e9]
    exact ⟨_, _, rfl, N9, K10, gn2, sz2, hnl ▸ Vc9⟩
theorem d11_0 : decode jdk_68_method_9_code 0 = .ok (.aload_n 0, 1) := by decide +kernel
theorem d11_1 : decode jdk_68_method_9_code 1 = .ok (.getfield 15, 3) := by decide +kernel
theorem d11_4 : decode jdk_68_method_9_code 4 = .ok (.arraylength, 1) := by decide +kernel
theorem d11_5 : decode jdk_68_method_9_code 5 = .ok (.aload_n 0, 1) := by decide +kernel
theorem d11_6 : decode jdk_68_method_9_code 6 = .ok (.getfield 22, 3) := by decide +kernel
theorem d11_9 : decode jdk_68_method_9_code 9 = .ok (.ishr, 1) := by decide +kernel
theorem d11_10 : decode jdk_68_method_9_code 10 = .ok (.istore_n 2, 1) := by decide +kernel
theorem d11_11 : decode jdk_68_method_9_code 11 = .ok (.iload_n 1, 1) := by decide +kernel
theorem d11_12 : decode jdk_68_method_9_code 12 = .ok (.iload_n 2, 1) := by decide +kernel
theorem d11_13 : decode jdk_68_method_9_code 13 = .ok (.isub, 1) := by decide +kernel
theorem d11_14 : decode jdk_68_method_9_code 14 = .ok (.ifCond .le 24, 3) := by decide +kernel
theorem d11_38 : decode jdk_68_method_9_code 38 = .ok (.return_, 1) := by decide +kernel
def Q_rmen (Z : State) (a : Addr) (mc : Int32) (tb : Addr) (kb : ClassId) (vs : List Value) (cp : Nat) (nm : Nat) (h0 : Heap) (n0 : Nat) (v : Option Value) (h : Heap) (L : List Loc) : Prop := v = none ∧ Fr n0 L ∧ h = h0
theorem ef_rmen (m : MethodId) (a : Addr) (mc : Int32) : entryFrame m #[(.ref a), (.int mc)] 3 = mkF m 0 #[.val (.ref a), .val (.int mc), .unset] [] := by first | (simp [entryFrame, mkF, argsToLocals, Value.category]; done) | rfl
set_option maxRecDepth 65536 in
set_option maxHeartbeats 40000000 in
theorem rmen (l : Launch) (Z : State) (a0 : Array Value) (hw : HW a0 Z) (ws : List Jvm.Cond) (a : Addr) (mc : Int32) (tb : Addr) (kb : ClassId) (vs : List Value) (cp : Nat) (nm : Nat) (h0 : Heap) (n0 : Nat) (O0 : Old Z n0 h0) (Fv : Fld Z h0 a "java/lang/AbstractStringBuilder" "value" "[B" (.ref tb)) (Fc : Fld Z h0 a "java/lang/AbstractStringBuilder" "coder" "B" (.int (0 : Int32))) (At : Arv Z h0 tb kb .byte (Int32.ofNat cp) vs (.int (0 : Int32))) (hmc : mc = Int32.ofNat nm) (hle : nm ≤ cp) (hcp : cp ≤ 1000) :
    MetFree l my11 (head1 (Jvm.Cond.code my11 jdk_68_method_9_code 3 none :: ws) ({ frames := 0, cells := 0, slots := 0, locals := 0 } : Room)) (fun aa U => aa = #[(.ref a), (.int mc)] ∧ Z.Warmed39 U.vm ∧ U.heap = h0) (fun _ _ _ _ _ => True) (fun _ U o U' => ∃ v L, o = .returned v ∧ Q_rmen Z a mc tb kb vs cp nm h0 n0 v U'.heap L ∧ FrameEnd U o U' L ({ frames := 0, cells := 0, slots := 0, locals := 0 } : Room).cells ({ frames := 0, cells := 0, slots := 0, locals := 0 } : Room).slots) := by
  refine MetFree.of_bodySF (plainFor_of_name pn4) hisR ?_
  intro p e s m args below meth c s₁ Bd hml0 hP hK
  obtain ⟨rfl, hZ, hh⟩ := hP
  have hx := Bd.exec
  have hby := Bd.bytes
  have B := fun {pc : Nat} {r} (h : decode jdk_68_method_9_code pc = r) => hb hby h
  have hml : c.maxLocals = 3 := hml0
  have hown : s.vm.findClass "java/lang/AbstractStringBuilder" = some m.cls := findClass_of_methodNamed Bd.named
  have hnm := (name_of_methodNamed Bd.named Bd.method).1
  have X0 : Stand p l e ({ frames := 0, cells := 0, slots := 0, locals := 0 } : Room) s m #[(.ref a), (.int mc)] below meth c s₁ [] 0 0 := Stand.of_body Bd
  have e0 : s₁.heap = h0 := by rw [← hh, Bd.state]; rfl
  have N0 := Fr.nil n0
  have K0 : Keep h0 h0 [] := Keep.refl _ _
  have pre0 : ∀ tgt, Steps p.tables e below (s₁.setTop (mkF m 0 #[.val (.ref a), .val (.int mc), .unset] [])) tgt → Steps p.tables e below (s₁.setTop (entryFrame m #[(.ref a), (.int mc)] 3)) tgt := fun tgt kgo => castTop (ef_rmen m a mc) kgo
  obtain ⟨T1, X1, e1, st1⟩ := getF X0 hx hZ hown (host := "") (Or.inl (ow69 hw)) Via.refl e0 Fv (g := (mkF m 1 #[(VR a), (VI mc), .unset] [(.ref a)])) rfl rfl (B d11_1)
  obtain ⟨cl2, Ar2, q2, S2, M2, H2, G2⟩ := id At
  obtain ⟨T3, X3, e3, st3⟩ := getF X1 hx hZ hown (host := "") (Or.inl (ow71 hw)) Via.refl e1 Fc (g := (mkF m 6 #[(VR a), (VI mc), .unset] [(.ref a), (.int (Int32.ofNat cp))])) rfl rfl (B d11_6)
  have pre4 : ∀ tgt, Steps p.tables e below (T3.setTop (mkF m 10 #[(VR a), (VI mc), .unset] [(.int ((Int32.ofNat cp) >>> ((0 : Int32) &&& 31)))])) tgt → Steps p.tables e below (s₁.setTop (entryFrame m #[(.ref a), (.int mc)] 3)) tgt := by
    intro tgt kgo
    refine pre0 _ ?_
    refine XS.aloadN X0.here hx rfl (B d11_0) rfl rfl ?_
    refine st1 _ ?_
    show GO p e below T1 (mkF m 4 #[(VR a), (VI mc), .unset] [(.ref tb)]) _
    refine X1.arraylength hx (by rw [e1]; exact Ar2.1) (State.isArrayOf_alike hZ.alike Ar2.2.1) (g := (mkF m 4 #[.val (.ref a), .val (.int mc), .unset] [(.ref tb)])) rfl rfl (B d11_4) _ ?_
    rw [len_of S2 M2]
    show GO p e below T1 (mkF m 5 #[(VR a), (VI mc), .unset] [(.int (Int32.ofNat cp))]) _
    refine XS.aloadN X1.here hx rfl (B d11_5) rfl rfl ?_
    refine st3 _ ?_
    show GO p e below T3 (mkF m 9 #[(VR a), (VI mc), .unset] [(.int 0), (.int (Int32.ofNat cp))]) _
    refine XS.ishr X3.here hx rfl (B d11_9) rfl ?_
    exact kgo
  have pre5 : ∀ tgt, Steps p.tables e below (T3.setTop (mkF m 10 #[(VR a), (VI mc), .unset] [(.int (Int32.ofNat cp))])) tgt → Steps p.tables e below (s₁.setTop (entryFrame m #[(.ref a), (.int mc)] 3)) tgt := by
    have q := pre4
    simp only [own_shr0] at q
    exact q
  obtain ⟨fs, hretL, hrun, hended, hW, hsame⟩ := X3.leave (v := none) (fun _ => rfl)
  refine ⟨_, _, pre5 _ ?_, hrun, hended, _, _, rfl, ?_, ⟨_, rfl⟩, hW, hsame.mono (by decide) (by decide)⟩
  · refine XS.istoreN X3.here hx rfl (B d11_10) rfl (l' := #[.val (.ref a), .val (.int mc), .val (.int (Int32.ofNat cp))]) rfl ?_
    refine XS.iloadN X3.here hx rfl (B d11_11) rfl ?_
    refine XS.iloadN X3.here hx rfl (B d11_12) rfl ?_
    refine XS.isub X3.here hx rfl (B d11_13) rfl ?_
    refine XS.ifYes X3.here hx rfl (pc0 := 14) (pc' := 38) rfl (B d11_14) rfl ((if0 _ _).trans (flt (by rw [hmc]; exact own_ngt hle (by omega))).2.2.2) (by decide) (by decide) ?_
    show GO p e below T3 (mkF m 38 #[(VR a), (VI mc), (VI (Int32.ofNat cp))] []) _
    exact X3.returnOut hx Bd.returns (B d11_38) hretL
  · show Q_rmen Z a mc tb kb vs cp nm h0 n0 _ T3.heap _
    rw [e3]
    exact ⟨rfl, N0, rfl⟩
theorem d11_17 : decode jdk_68_method_9_code 17 = .ok (.aload_n 0, 1) := by decide +kernel
theorem d11_18 : decode jdk_68_method_9_code 18 = .ok (.aload_n 0, 1) := by decide +kernel
theorem d11_19 : decode jdk_68_method_9_code 19 = .ok (.getfield 15, 3) := by decide +kernel
theorem d11_22 : decode jdk_68_method_9_code 22 = .ok (.aload_n 0, 1) := by decide +kernel
theorem d11_23 : decode jdk_68_method_9_code 23 = .ok (.iload_n 1, 1) := by decide +kernel
theorem d11_24 : decode jdk_68_method_9_code 24 = .ok (.invokevirtual 104, 3) := by decide +kernel
theorem d11_27 : decode jdk_68_method_9_code 27 = .ok (.aload_n 0, 1) := by decide +kernel
theorem d11_28 : decode jdk_68_method_9_code 28 = .ok (.getfield 22, 3) := by decide +kernel
theorem d11_31 : decode jdk_68_method_9_code 31 = .ok (.ishl, 1) := by decide +kernel
theorem d11_32 : decode jdk_68_method_9_code 32 = .ok (.invokestatic 108, 3) := by decide +kernel
theorem d11_35 : decode jdk_68_method_9_code 35 = .ok (.putfield 15, 3) := by decide +kernel
def Q_rmeg (Z : State) (a : Addr) (mc : Int32) (tb : Addr) (kb : ClassId) (vs : List Value) (cp : Nat) (nm : Nat) (cn : Int32) (h0 : Heap) (n0 : Nat) (v : Option Value) (h : Heap) (L : List Loc) : Prop := ∃ (tn : Addr) (kn : ClassId), v = none ∧ Fr n0 L ∧ Keep h0 h [a] ∧ n0 ≤ tn ∧ h0.size ≤ tn ∧ Fld Z h a "java/lang/AbstractStringBuilder" "value" "[B" (.ref tn) ∧ Fld Z h a "java/lang/AbstractStringBuilder" "coder" "B" (.int (0 : Int32)) ∧ Fld Z h a "java/lang/AbstractStringBuilder" "count" "I" (.int cn) ∧ Arv Z h tn kn .byte (Int32.ofNat (cp + max (nm - cp) (cp + 2))) vs (.int (0 : Int32))
theorem ef_rmeg (m : MethodId) (a : Addr) (mc : Int32) : entryFrame m #[(.ref a), (.int mc)] 3 = mkF m 0 #[.val (.ref a), .val (.int mc), .unset] [] := by first | (simp [entryFrame, mkF, argsToLocals, Value.category]; done) | rfl
set_option maxRecDepth 65536 in
set_option maxHeartbeats 40000000 in
theorem rmeg (l : Launch) (Z : State) (a0 : Array Value) (hw : HW a0 Z) (ws : List Jvm.Cond) (a : Addr) (mc : Int32) (tb : Addr) (kb : ClassId) (vs : List Value) (cp : Nat) (nm : Nat) (cn : Int32) (h0 : Heap) (n0 : Nat) (O0 : Old Z n0 h0) (Fv : Fld Z h0 a "java/lang/AbstractStringBuilder" "value" "[B" (.ref tb)) (Fc : Fld Z h0 a "java/lang/AbstractStringBuilder" "coder" "B" (.int (0 : Int32))) (At : Arv Z h0 tb kb .byte (Int32.ofNat cp) vs (.int (0 : Int32))) (Ea : Exa Z h0 a "java/lang/StringBuilder") (Fn : Fld Z h0 a "java/lang/AbstractStringBuilder" "count" "I" (.int cn)) (ga : n0 ≤ a) (hmc : mc = Int32.ofNat nm) (hgr : cp < nm) (hm : nm ≤ 100) (hcp : cp ≤ 100) (hvl : vs.length ≤ cp) :
    MetFree l my11 (head1 (Jvm.Cond.code my11 jdk_68_method_9_code 3 none :: ws) ({ frames := 3, cells := 1, slots := 300, locals := 75 } : Room)) (fun aa U => aa = #[(.ref a), (.int mc)] ∧ Z.Warmed39 U.vm ∧ U.heap = h0) (fun _ _ _ _ _ => True) (fun _ U o U' => ∃ v L, o = .returned v ∧ Q_rmeg Z a mc tb kb vs cp nm cn h0 n0 v U'.heap L ∧ FrameEnd U o U' L ({ frames := 3, cells := 1, slots := 300, locals := 75 } : Room).cells ({ frames := 3, cells := 1, slots := 300, locals := 75 } : Room).slots) := by
  refine MetFree.of_bodySF (plainFor_of_name pn4) hisR ?_
  intro p e s m args below meth c s₁ Bd hml0 hP hK
  obtain ⟨rfl, hZ, hh⟩ := hP
  have hx := Bd.exec
  have hby := Bd.bytes
  have B := fun {pc : Nat} {r} (h : decode jdk_68_method_9_code pc = r) => hb hby h
  have hml : c.maxLocals = 3 := hml0
  have hown : s.vm.findClass "java/lang/AbstractStringBuilder" = some m.cls := findClass_of_methodNamed Bd.named
  have hnm := (name_of_methodNamed Bd.named Bd.method).1
  have X0 : Stand p l e ({ frames := 3, cells := 1, slots := 300, locals := 75 } : Room) s m #[(.ref a), (.int mc)] below meth c s₁ [] 0 0 := Stand.of_body Bd
  have e0 : s₁.heap = h0 := by rw [← hh, Bd.state]; rfl
  have N0 := Fr.nil n0
  have K0 : Keep h0 h0 [a] := Keep.refl _ _
  have pre0 : ∀ tgt, Steps p.tables e below (s₁.setTop (mkF m 0 #[.val (.ref a), .val (.int mc), .unset] [])) tgt → Steps p.tables e below (s₁.setTop (entryFrame m #[(.ref a), (.int mc)] 3)) tgt := fun tgt kgo => castTop (ef_rmeg m a mc) kgo
  have nea : a ≠ tb := Exa.neArv Ea At (ow56 hw)
  obtain ⟨T1, X1, e1, st1⟩ := getF X0 hx hZ hown (host := "") (Or.inl (ow69 hw)) Via.refl e0 Fv (g := (mkF m 1 #[(VR a), (VI mc), .unset] [(.ref a)])) rfl rfl (B d11_1)
  obtain ⟨cl2, Ar2, q2, S2, M2, H2, G2⟩ := id At
  obtain ⟨T3, X3, e3, st3⟩ := getF X1 hx hZ hown (host := "") (Or.inl (ow71 hw)) Via.refl e1 Fc (g := (mkF m 6 #[(VR a), (VI mc), .unset] [(.ref a), (.int (Int32.ofNat cp))])) rfl rfl (B d11_6)
  have pre4 : ∀ tgt, Steps p.tables e below (T3.setTop (mkF m 10 #[(VR a), (VI mc), .unset] [(.int ((Int32.ofNat cp) >>> ((0 : Int32) &&& 31)))])) tgt → Steps p.tables e below (s₁.setTop (entryFrame m #[(.ref a), (.int mc)] 3)) tgt := by
    intro tgt kgo
    refine pre0 _ ?_
    refine XS.aloadN X0.here hx rfl (B d11_0) rfl rfl ?_
    refine st1 _ ?_
    show GO p e below T1 (mkF m 4 #[(VR a), (VI mc), .unset] [(.ref tb)]) _
    refine X1.arraylength hx (by rw [e1]; exact Ar2.1) (State.isArrayOf_alike hZ.alike Ar2.2.1) (g := (mkF m 4 #[.val (.ref a), .val (.int mc), .unset] [(.ref tb)])) rfl rfl (B d11_4) _ ?_
    rw [len_of S2 M2]
    show GO p e below T1 (mkF m 5 #[(VR a), (VI mc), .unset] [(.int (Int32.ofNat cp))]) _
    refine XS.aloadN X1.here hx rfl (B d11_5) rfl rfl ?_
    refine st3 _ ?_
    show GO p e below T3 (mkF m 9 #[(VR a), (VI mc), .unset] [(.int 0), (.int (Int32.ofNat cp))]) _
    refine XS.ishr X3.here hx rfl (B d11_9) rfl ?_
    exact kgo
  have pre5 : ∀ tgt, Steps p.tables e below (T3.setTop (mkF m 10 #[(VR a), (VI mc), .unset] [(.int (Int32.ofNat cp))])) tgt → Steps p.tables e below (s₁.setTop (entryFrame m #[(.ref a), (.int mc)] 3)) tgt := by
    have q := pre4
    simp only [own_shr0] at q
    exact q
  obtain ⟨T6, X6, e6, st6⟩ := getF X3 hx hZ hown (host := "") (Or.inl (ow69 hw)) Via.refl e3 Fv (g := (mkF m 19 #[(VR a), (VI mc), (VI (Int32.ofNat cp))] [(.ref a), (.ref a)])) rfl rfl (B d11_19)
  obtain ⟨cq7, kq7, q7a, q7b, q7c⟩ := isOf hZ e6 Ea
  obtain ⟨_, _, ⟨T7, L7, k7, n7⟩, -, X7, ⟨Lc7, hQ7, l7, y7, z7⟩, st7⟩ := X6.virtualBack hx (y := my9) (z := my9) hown (mvT hZ (ow166 hw)) (mvT hZ (own_decl (ow167 hw) (ow170 hw))) (notFace_of_selects (args := #[]) (mvT hZ (ow169 hw))) (mvT hZ (ow169 hw)) (mvT hZ (ow167 hw)) (by decide) (backOf (W := 2) (rmnc l Z a0 hw [] a mc tb kb vs cp nm h0 n0 O0 Fv Fc At hmc hgr hm hcp) hZ (ow170 hw) (ow65 hw) (by decide) (by decide)) q7a q7c (g := (mkF m 24 #[(VR a), (VI mc), (VI (Int32.ofNat cp))] [(.int mc), (.ref a), (.ref tb), (.ref a)])) rfl (by rw [hml]; rfl) (Steps.refl _) (argsL := [(.int mc)]) (rest := [(.ref tb), (.ref a)]) (lenOf pd4 rfl) rfl (w0 rfl rfl) (B d11_24) (fun _ _ => ⟨rfl, e6, (by decide : 0 + 0 ≤ _), (by decide : 0 + 0 ≤ _)⟩)
  dsimp only [Pt.U, Pt.locs, Pt.cells, Pt.slots] at X7 l7 y7 z7 st7 hQ7
  rw [l7, y7, z7] at X7
  obtain ⟨rfl, Nq7, eq7⟩ := hQ7
  have N8 := Fr.app N0 Nq7
  obtain ⟨T9, X9, e9, st9⟩ := getF X7 hx hZ hown (host := "") (Or.inl (ow71 hw)) Via.refl eq7 Fc (g := (mkF m 28 #[(VR a), (VI mc), (VI (Int32.ofNat cp))] [(.ref a), (.int (Int32.ofNat (cp + max (nm - cp) (cp + 2)))), (.ref tb), (.ref a)])) rfl rfl (B d11_28)
  have pre10 : ∀ tgt, Steps p.tables e below (T9.setTop (mkF m 32 #[(VR a), (VI mc), (VI (Int32.ofNat cp))] [(.int ((Int32.ofNat (cp + max (nm - cp) (cp + 2))) <<< ((0 : Int32) &&& 31))), (.ref tb), (.ref a)])) tgt → Steps p.tables e below (s₁.setTop (entryFrame m #[(.ref a), (.int mc)] 3)) tgt := by
    intro tgt kgo
    refine pre5 _ ?_
    refine XS.istoreN X3.here hx rfl (B d11_10) rfl (l' := #[.val (.ref a), .val (.int mc), .val (.int (Int32.ofNat cp))]) rfl ?_
    refine XS.iloadN X3.here hx rfl (B d11_11) rfl ?_
    refine XS.iloadN X3.here hx rfl (B d11_12) rfl ?_
    refine XS.isub X3.here hx rfl (B d11_13) rfl ?_
    refine XS.ifNo X3.here hx rfl (B d11_14) rfl ((if0 _ _).trans (tlt (by rw [hmc]; exact own_gt hgr (by omega))).2.2.2) ?_
    show GO p e below T3 (mkF m 17 #[(VR a), (VI mc), (VI (Int32.ofNat cp))] []) _
    refine XS.aloadN X3.here hx rfl (B d11_17) rfl rfl ?_
    refine XS.aloadN X3.here hx rfl (B d11_18) rfl rfl ?_
    refine st6 _ ?_
    show GO p e below T6 (mkF m 22 #[(VR a), (VI mc), (VI (Int32.ofNat cp))] [(.ref tb), (.ref a)]) _
    refine XS.aloadN X6.here hx rfl (B d11_22) rfl rfl ?_
    refine XS.iloadN X6.here hx rfl (B d11_23) rfl ?_
    refine st7.trans ?_
    show GO p e below T7 (mkF m 27 #[(VR a), (VI mc), (VI (Int32.ofNat cp))] [(.int (Int32.ofNat (cp + max (nm - cp) (cp + 2)))), (.ref tb), (.ref a)]) _
    refine XS.aloadN X7.here hx rfl (B d11_27) rfl rfl ?_
    refine st9 _ ?_
    show GO p e below T9 (mkF m 31 #[(VR a), (VI mc), (VI (Int32.ofNat cp))] [(.int 0), (.int (Int32.ofNat (cp + max (nm - cp) (cp + 2)))), (.ref tb), (.ref a)]) _
    refine XS.ishl X9.here hx rfl (B d11_31) rfl ?_
    exact kgo
  have pre11 : ∀ tgt, Steps p.tables e below (T9.setTop (mkF m 32 #[(VR a), (VI mc), (VI (Int32.ofNat cp))] [(.int (Int32.ofNat (cp + max (nm - cp) (cp + 2)))), (.ref tb), (.ref a)])) tgt → Steps p.tables e below (s₁.setTop (entryFrame m #[(.ref a), (.int mc)] 3)) tgt := by
    have q := pre10
    simp only [own_shl0] at q
    exact q
  obtain ⟨_, _, ⟨T12, L12, k12, n12⟩, -, X12, ⟨Lc12, hQ12, l12, y12, z12⟩, st12⟩ := Jvm.LawKit.callS X9 hx (y := my10) hown (mvT hZ (ow180 hw)) (mvT hZ (ow181 hw)) (mvT hZ (ow146 hw)) (mvT hZ (ow182 hw)) (by decide) (backOf (W := 1) (rmca l Z a0 hw [] tb (Int32.ofNat (cp + max (nm - cp) (cp + 2))) kb vs cp (cp + max (nm - cp) (cp + 2)) h0 n0 O0 At hvl rfl (by omega) (by omega)) hZ (ow182 hw) (ow146 hw) (by decide) (by decide)) (g := (mkF m 32 #[(VR a), (VI mc), (VI (Int32.ofNat cp))] [(.int (Int32.ofNat (cp + max (nm - cp) (cp + 2)))), (.ref tb), (.ref a)])) rfl (by rw [hml]; rfl) (argsL := [(.ref tb), (.int (Int32.ofNat (cp + max (nm - cp) (cp + 2))))]) (rest := [(.ref a)]) (lenOf pd5 rfl) rfl (w0 rfl rfl) (B d11_32) (fun _ _ => ⟨rfl, e9, (by decide : 0 + 1 ≤ _), (by decide : 0 + 300 ≤ _)⟩)
  dsimp only [Pt.U, Pt.locs, Pt.cells, Pt.slots] at X12 l12 y12 z12 st12 hQ12
  rw [l12, y12, z12] at X12
  obtain ⟨nb12, nk12, rfl, Nq12, kp12, gb12, gs12, nA12⟩ := hQ12
  have N13 := Fr.app N8 Nq12
  have Ol14 := O0.keep kp12 all0
  have K14 := K0.trans kp12 all0
  have gne12_a : a ≠ nb12 := Nat.ne_of_lt (Nat.lt_of_lt_of_le Fv.lt gs12)
  have gne12_tb : tb ≠ nb12 := Nat.ne_of_lt (Nat.lt_of_lt_of_le At.lt gs12)
  have f15 := (Ea.keep kp12)
  have f16 := (Fv.keep kp12 nin0)
  obtain ⟨T17, h17, X17, e17, W17, st17⟩ := putF X12 hx hZ hown (host := "") (Or.inl (ow69 hw)) Via.refl rfl f16 f15 (Or.inl (ow70 hw)) (ow56 hw) (ty := (.array .byte)) (by decide) rfl rfl (g := (mkF m 35 #[(VR a), (VI mc), (VI (Int32.ofNat cp))] [(.ref nb12), (.ref a)])) rfl rfl (B d11_35)
  have Fw17 := f16.same W17
  have N18 := Fr.snoc X17 N13 ga
  have Ol18 := Ol14.wr W17 ga
  have K18 := K14.wr W17 (Or.inl (List.mem_of_getElem? (i := 0) rfl))
  have f19 := ((Fc.keep kp12 nin0).other W17 (Or.inr (slot_ne (Or.inl (ow72 hw)) (Or.inl (ow70 hw)) (by decide) (t := .byte) (t' := (.array .byte)) (by decide) (by decide))))
  have f20 := ((Fn.keep kp12 nin0).other W17 (Or.inr (slot_ne (Or.inl (ow88 hw)) (Or.inl (ow70 hw)) (by decide) (t := .int) (t' := (.array .byte)) (by decide) (by decide))))
  have f21 := (nA12.other W17 (Ne.symm gne12_a))
  obtain ⟨fs, hretL, hrun, hended, hW, hsame⟩ := X17.leave (v := none) (fun _ => rfl)
  refine ⟨_, _, pre11 _ ?_, hrun, hended, _, _, rfl, ?_, ⟨_, rfl⟩, hW, hsame.mono (by decide) (by decide)⟩
  · refine st12 _ ?_
    show GO p e below T12 (mkF m 35 #[(VR a), (VI mc), (VI (Int32.ofNat cp))] [(.ref nb12), (.ref a)]) _
    refine st17 _ ?_
    show GO p e below T17 (mkF m 38 #[(VR a), (VI mc), (VI (Int32.ofNat cp))] []) _
    exact X17.returnOut hx Bd.returns (B d11_38) hretL
  · show Q_rmeg Z a mc tb kb vs cp nm cn h0 n0 _ T17.heap _
    rw [e17]
    exact ⟨_, _, rfl, N18, K18, gb12, (Nat.le_trans K0.1 gs12), Fw17, f19, f20, f21⟩
theorem d12_0 : decode jdk_42_method_152_code 0 = .ok (.getstatic 38, 3) := by decide +kernel
theorem d12_3 : decode jdk_42_method_152_code 3 = .ok (.ifCond .eq 10, 3) := by decide +kernel
theorem d12_6 : decode jdk_42_method_152_code 6 = .ok (.aload_n 0, 1) := by decide +kernel
theorem d12_7 : decode jdk_42_method_152_code 7 = .ok (.getfield 15, 3) := by decide +kernel
theorem d12_10 : decode jdk_42_method_152_code 10 = .ok (.goto 4, 3) := by decide +kernel
theorem d12_14 : decode jdk_42_method_152_code 14 = .ok (.ireturn, 1) := by decide +kernel
def Q_rmcod (Z : State) (a : Addr) (G1 : Int32) (h0 : Heap) (n0 : Nat) (v : Option Value) (h : Heap) (L : List Loc) : Prop := v = some (.int (0 : Int32)) ∧ Fr n0 L ∧ h = h0
theorem ef_rmcod (m : MethodId) (a : Addr) : entryFrame m #[(.ref a)] 1 = mkF m 0 #[.val (.ref a)] [] := by first | (simp [entryFrame, mkF, argsToLocals, Value.category]; done) | rfl
set_option maxRecDepth 65536 in
set_option maxHeartbeats 40000000 in
theorem rmcod (l : Launch) (Z : State) (a0 : Array Value) (hw : HW a0 Z) (ws : List Jvm.Cond) (a : Addr) (G1 : Int32) (h0 : Heap) (n0 : Nat) (O0 : Old Z n0 h0) (O2 : Sta Z Z.heap "java/lang/String" "COMPACT_STRINGS" "Z" (.int G1)) (P5 : ¬ (G1 = (0 : Int32))) (Fc : Fld Z h0 a "java/lang/String" "coder" "B" (.int (0 : Int32))) :
    MetFree l my12 (head1 (Jvm.Cond.code my12 jdk_42_method_152_code 1 (some .byte) :: ws) ({ frames := 0, cells := 0, slots := 0, locals := 0 } : Room)) (fun aa U => aa = #[(.ref a)] ∧ Z.Warmed39 U.vm ∧ U.heap = h0) (fun _ _ _ _ _ => True) (fun _ U o U' => ∃ v L, o = .returned v ∧ Q_rmcod Z a G1 h0 n0 v U'.heap L ∧ FrameEnd U o U' L ({ frames := 0, cells := 0, slots := 0, locals := 0 } : Room).cells ({ frames := 0, cells := 0, slots := 0, locals := 0 } : Room).slots) := by
  refine MetFree.of_bodySF (plainFor_of_name pn0) hisR ?_
  intro p e s m args below meth c s₁ Bd hml0 hP hK
  obtain ⟨rfl, hZ, hh⟩ := hP
  have hx := Bd.exec
  have hby := Bd.bytes
  have B := fun {pc : Nat} {r} (h : decode jdk_42_method_152_code pc = r) => hb hby h
  have hml : c.maxLocals = 1 := hml0
  have hown : s.vm.findClass "java/lang/String" = some m.cls := findClass_of_methodNamed Bd.named
  have hnm := (name_of_methodNamed Bd.named Bd.method).1
  have X0 : Stand p l e ({ frames := 0, cells := 0, slots := 0, locals := 0 } : Room) s m #[(.ref a)] below meth c s₁ [] 0 0 := Stand.of_body Bd
  have e0 : s₁.heap = h0 := by rw [← hh, Bd.state]; rfl
  have N0 := Fr.nil n0
  have K0 : Keep h0 h0 [] := Keep.refl _ _
  have pre0 : ∀ tgt, Steps p.tables e below (s₁.setTop (mkF m 0 #[.val (.ref a)] [])) tgt → Steps p.tables e below (s₁.setTop (entryFrame m #[(.ref a)] 1)) tgt := fun tgt kgo => castTop (ef_rmcod m a) kgo
  obtain ⟨T1, X1, e1, st1⟩ := getS2 X0 hx hZ hown (host := "") (Or.inl (ow25 hw)) Via.refl e0 (O2.ext O0.2) (g := (mkF m 0 #[(VR a)] [])) rfl (B d12_0)
  obtain ⟨T2, X2, e2, st2⟩ := getF X1 hx hZ hown (host := "") (Or.inl (ow37 hw)) Via.refl e1 Fc (g := (mkF m 7 #[(VR a)] [(.ref a)])) rfl rfl (B d12_7)
  obtain ⟨fs, hretL, hrun, hended, hW, hsame⟩ := X2.leave (v := some (.int (0 : Int32))) (fun h => by rw [Bd.returns] at h; cases h)
  refine ⟨_, _, pre0 _ ?_, hrun, hended, _, _, rfl, ?_, ⟨_, rfl⟩, hW, hsame.mono (by decide) (by decide)⟩
  · refine st1 _ ?_
    show GO p e below T1 (mkF m 3 #[(VR a)] [(.int G1)]) _
    refine XS.ifNo X1.here hx rfl (B d12_3) rfl ((if0 _ _).trans (feq P5).1) ?_
    show GO p e below T1 (mkF m 6 #[(VR a)] []) _
    refine XS.aloadN X1.here hx rfl (B d12_6) rfl rfl ?_
    refine st2 _ ?_
    show GO p e below T2 (mkF m 10 #[(VR a)] [(.int 0)]) _
    refine XS.goto X2.here hx rfl (pc0 := 10) (pc' := 14) rfl (B d12_10) (by decide) (by decide) ?_
    exact retOut X2 hx Bd.returns rfl (Or.inl ⟨rfl, Or.inr (Or.inr (Or.inl rfl)), _, rfl⟩) (B d12_14) hretL
  · show Q_rmcod Z a G1 h0 n0 _ T2.heap _
    rw [e2]
    exact ⟨rfl, N0, rfl⟩
theorem d13_0 : decode jdk_68_method_71_code 0 = .ok (.getstatic 18, 3) := by decide +kernel
theorem d13_3 : decode jdk_68_method_71_code 3 = .ok (.ifCond .eq 18, 3) := by decide +kernel
theorem d13_6 : decode jdk_68_method_71_code 6 = .ok (.aload_n 0, 1) := by decide +kernel
theorem d13_7 : decode jdk_68_method_71_code 7 = .ok (.getfield 22, 3) := by decide +kernel
theorem d13_10 : decode jdk_68_method_71_code 10 = .ok (.aload_n 1, 1) := by decide +kernel
theorem d13_11 : decode jdk_68_method_71_code 11 = .ok (.invokevirtual 40, 3) := by decide +kernel
theorem d13_14 : decode jdk_68_method_71_code 14 = .ok (.if_icmp .eq 7, 3) := by decide +kernel
theorem d13_21 : decode jdk_68_method_71_code 21 = .ok (.return_, 1) := by decide +kernel
def Q_rminf (Z : State) (a : Addr) (sa : Addr) (G1 : Int32) (h0 : Heap) (n0 : Nat) (v : Option Value) (h : Heap) (L : List Loc) : Prop := v = none ∧ Fr n0 L ∧ h = h0
theorem ef_rminf (m : MethodId) (a : Addr) (sa : Addr) : entryFrame m #[(.ref a), (.ref sa)] 2 = mkF m 0 #[.val (.ref a), .val (.ref sa)] [] := by first | (simp [entryFrame, mkF, argsToLocals, Value.category]; done) | rfl
set_option maxRecDepth 65536 in
set_option maxHeartbeats 40000000 in
theorem rminf (l : Launch) (Z : State) (a0 : Array Value) (hw : HW a0 Z) (ws : List Jvm.Cond) (a : Addr) (sa : Addr) (G1 : Int32) (h0 : Heap) (n0 : Nat) (O0 : Old Z n0 h0) (O2 : Sta Z Z.heap "java/lang/String" "COMPACT_STRINGS" "Z" (.int G1)) (P5 : ¬ (G1 = (0 : Int32))) (Es : Exa Z h0 sa "java/lang/String") (Fsc : Fld Z h0 sa "java/lang/String" "coder" "B" (.int (0 : Int32))) (Fc : Fld Z h0 a "java/lang/AbstractStringBuilder" "coder" "B" (.int (0 : Int32))) :
    MetFree l my13 (head1 (Jvm.Cond.code my13 jdk_68_method_71_code 2 none :: ws) ({ frames := 1, cells := 0, slots := 0, locals := 13 } : Room)) (fun aa U => aa = #[(.ref a), (.ref sa)] ∧ Z.Warmed39 U.vm ∧ U.heap = h0) (fun _ _ _ _ _ => True) (fun _ U o U' => ∃ v L, o = .returned v ∧ Q_rminf Z a sa G1 h0 n0 v U'.heap L ∧ FrameEnd U o U' L ({ frames := 1, cells := 0, slots := 0, locals := 13 } : Room).cells ({ frames := 1, cells := 0, slots := 0, locals := 13 } : Room).slots) := by
  refine MetFree.of_bodySF (plainFor_of_name pn4) hisR ?_
  intro p e s m args below meth c s₁ Bd hml0 hP hK
  obtain ⟨rfl, hZ, hh⟩ := hP
  have hx := Bd.exec
  have hby := Bd.bytes
  have B := fun {pc : Nat} {r} (h : decode jdk_68_method_71_code pc = r) => hb hby h
  have hml : c.maxLocals = 2 := hml0
  have hown : s.vm.findClass "java/lang/AbstractStringBuilder" = some m.cls := findClass_of_methodNamed Bd.named
  have hnm := (name_of_methodNamed Bd.named Bd.method).1
  have X0 : Stand p l e ({ frames := 1, cells := 0, slots := 0, locals := 13 } : Room) s m #[(.ref a), (.ref sa)] below meth c s₁ [] 0 0 := Stand.of_body Bd
  have e0 : s₁.heap = h0 := by rw [← hh, Bd.state]; rfl
  have N0 := Fr.nil n0
  have K0 : Keep h0 h0 [] := Keep.refl _ _
  have pre0 : ∀ tgt, Steps p.tables e below (s₁.setTop (mkF m 0 #[.val (.ref a), .val (.ref sa)] [])) tgt → Steps p.tables e below (s₁.setTop (entryFrame m #[(.ref a), (.ref sa)] 2)) tgt := fun tgt kgo => castTop (ef_rminf m a sa) kgo
  obtain ⟨T1, X1, e1, st1⟩ := getS2 X0 hx hZ hown (host := "") (Or.inl (ow68 hw)) Via.refl e0 (O2.ext O0.2) (g := (mkF m 0 #[(VR a), (VR sa)] [])) rfl (B d13_0)
  obtain ⟨T2, X2, e2, st2⟩ := getF X1 hx hZ hown (host := "") (Or.inl (ow71 hw)) Via.refl e1 Fc (g := (mkF m 7 #[(VR a), (VR sa)] [(.ref a)])) rfl rfl (B d13_7)
  obtain ⟨cq3, kq3, q3a, q3b, q3c⟩ := isOf hZ e2 Es
  obtain ⟨_, _, ⟨T3, L3, k3, n3⟩, -, X3, ⟨Lc3, hQ3, l3, y3, z3⟩, st3⟩ := X2.virtualBack hx (y := my12) (z := my12) hown (mvT hZ (ow104 hw)) (mvT hZ (ow51 hw)) (notFace_of_selects (args := #[]) (mvT hZ (ow53 hw))) (mvT hZ (ow53 hw)) (mvT hZ (ow52 hw)) (by decide) (backOf (W := 1) (rmcod l Z a0 hw [] sa G1 h0 n0 O0 O2 P5 Fsc) hZ (ow54 hw) (ow14 hw) (by decide) (by decide)) q3a q3c (g := (mkF m 11 #[(VR a), (VR sa)] [(.ref sa), (.int 0)])) rfl (by rw [hml]; rfl) (Steps.refl _) (argsL := []) (rest := [(.int 0)]) (lenOf pd6 rfl) rfl (w0 rfl rfl) (B d13_11) (fun _ _ => ⟨rfl, e2, (by decide : 0 + 0 ≤ _), (by decide : 0 + 0 ≤ _)⟩)
  dsimp only [Pt.U, Pt.locs, Pt.cells, Pt.slots] at X3 l3 y3 z3 st3 hQ3
  rw [l3, y3, z3] at X3
  obtain ⟨rfl, Nq3, eq3⟩ := hQ3
  have N4 := Fr.app N0 Nq3
  obtain ⟨fs, hretL, hrun, hended, hW, hsame⟩ := X3.leave (v := none) (fun _ => rfl)
  refine ⟨_, _, pre0 _ ?_, hrun, hended, _, _, rfl, ?_, ⟨_, rfl⟩, hW, hsame.mono (by decide) (by decide)⟩
  · refine st1 _ ?_
    show GO p e below T1 (mkF m 3 #[(VR a), (VR sa)] [(.int G1)]) _
    refine XS.ifNo X1.here hx rfl (B d13_3) rfl ((if0 _ _).trans (feq P5).1) ?_
    show GO p e below T1 (mkF m 6 #[(VR a), (VR sa)] []) _
    refine XS.aloadN X1.here hx rfl (B d13_6) rfl rfl ?_
    refine st2 _ ?_
    show GO p e below T2 (mkF m 10 #[(VR a), (VR sa)] [(.int 0)]) _
    refine XS.aloadN X2.here hx rfl (B d13_10) rfl rfl ?_
    refine st3.trans ?_
    show GO p e below T3 (mkF m 14 #[(VR a), (VR sa)] [(.int 0), (.int 0)]) _
    refine XS.icmpYes X3.here hx rfl (pc0 := 14) (pc' := 21) rfl (B d13_14) rfl (teq (by decide : (0 : Int32) = (0 : Int32))).1 (by decide) (by decide) ?_
    show GO p e below T3 (mkF m 21 #[(VR a), (VR sa)] []) _
    exact X3.returnOut hx Bd.returns (B d13_21) hretL
  · show Q_rminf Z a sa G1 h0 n0 _ T3.heap _
    rw [eq3]
    exact ⟨rfl, N4, rfl⟩
theorem d14_0 : decode jdk_42_method_147_code 0 = .ok (.aload_n 0, 1) := by decide +kernel
theorem d14_1 : decode jdk_42_method_147_code 1 = .ok (.invokevirtual 335, 3) := by decide +kernel
theorem d14_4 : decode jdk_42_method_147_code 4 = .ok (.iload_n 3, 1) := by decide +kernel
theorem d14_5 : decode jdk_42_method_147_code 5 = .ok (.if_icmp .ne 23, 3) := by decide +kernel
theorem d14_8 : decode jdk_42_method_147_code 8 = .ok (.aload_n 0, 1) := by decide +kernel
theorem d14_9 : decode jdk_42_method_147_code 9 = .ok (.getfield 9, 3) := by decide +kernel
theorem d14_12 : decode jdk_42_method_147_code 12 = .ok (.iconst 0, 1) := by decide +kernel
theorem d14_13 : decode jdk_42_method_147_code 13 = .ok (.aload_n 1, 1) := by decide +kernel
theorem d14_14 : decode jdk_42_method_147_code 14 = .ok (.iload_n 2, 1) := by decide +kernel
theorem d14_15 : decode jdk_42_method_147_code 15 = .ok (.iload_n 3, 1) := by decide +kernel
theorem d14_16 : decode jdk_42_method_147_code 16 = .ok (.ishl, 1) := by decide +kernel
theorem d14_17 : decode jdk_42_method_147_code 17 = .ok (.aload_n 0, 1) := by decide +kernel
theorem d14_18 : decode jdk_42_method_147_code 18 = .ok (.getfield 9, 3) := by decide +kernel
theorem d14_21 : decode jdk_42_method_147_code 21 = .ok (.arraylength, 1) := by decide +kernel
theorem d14_22 : decode jdk_42_method_147_code 22 = .ok (.invokestatic 212, 3) := by decide +kernel
theorem d14_25 : decode jdk_42_method_147_code 25 = .ok (.goto 18, 3) := by decide +kernel
theorem d14_43 : decode jdk_42_method_147_code 43 = .ok (.return_, 1) := by decide +kernel
def Q_rmgb (Z : State) (sa : Addr) (tb : Addr) (di : Int32) (ts : Addr) (ks : ClassId) (ds : List Int32) (kb : ClassId) (vs : List Value) (cp : Nat) (G1 : Int32) (h0 : Heap) (n0 : Nat) (v : Option Value) (h : Heap) (L : List Loc) : Prop := v = none ∧ Fr n0 L ∧ Keep h0 h [tb] ∧ Arv Z h tb kb .byte (Int32.ofNat cp) (vs ++ ((List.map (fun c => c.toInt8.toInt32) ds).map Value.int)) (.int (0 : Int32))
theorem ef_rmgb (m : MethodId) (sa : Addr) (tb : Addr) (di : Int32) : entryFrame m #[(.ref sa), (.ref tb), (.int di), (.int (0 : Int32))] 4 = mkF m 0 #[.val (.ref sa), .val (.ref tb), .val (.int di), .val (.int (0 : Int32))] [] := by first | (simp [entryFrame, mkF, argsToLocals, Value.category]; done) | rfl
set_option maxRecDepth 65536 in
set_option maxHeartbeats 40000000 in
theorem rmgb (l : Launch) (Z : State) (a0 : Array Value) (hw : HW a0 Z) (ws : List Jvm.Cond) (sa : Addr) (tb : Addr) (di : Int32) (ts : Addr) (ks : ClassId) (ds : List Int32) (kb : ClassId) (vs : List Value) (cp : Nat) (G1 : Int32) (h0 : Heap) (n0 : Nat) (O0 : Old Z n0 h0) (O2 : Sta Z Z.heap "java/lang/String" "COMPACT_STRINGS" "Z" (.int G1)) (P5 : ¬ (G1 = (0 : Int32))) (Es : Exa Z h0 sa "java/lang/String") (Fsc : Fld Z h0 sa "java/lang/String" "coder" "B" (.int (0 : Int32))) (Fsv : Fld Z h0 sa "java/lang/String" "value" "[B" (.ref ts)) (As : Arv Z h0 ts ks .byte (Int32.ofNat (List.length ds)) ((List.map (fun c => c.toInt8.toInt32) ds).map Value.int) (.int (0 : Int32))) (At : Arv Z h0 tb kb .byte (Int32.ofNat cp) vs (.int (0 : Int32))) (hdi : di = Int32.ofNat (List.length vs)) (hcp : List.length vs + List.length ds ≤ cp) (hbd : cp ≤ 1000) (gt : n0 ≤ tb) :
    MetFree l my14 (head1 (Jvm.Cond.code my14 jdk_42_method_147_code 4 none :: ws) ({ frames := 1, cells := 0, slots := 0, locals := 60 } : Room)) (fun aa U => aa = #[(.ref sa), (.ref tb), (.int di), (.int (0 : Int32))] ∧ Z.Warmed39 U.vm ∧ U.heap = h0) (fun _ _ _ _ _ => True) (fun _ U o U' => ∃ v L, o = .returned v ∧ Q_rmgb Z sa tb di ts ks ds kb vs cp G1 h0 n0 v U'.heap L ∧ FrameEnd U o U' L ({ frames := 1, cells := 0, slots := 0, locals := 60 } : Room).cells ({ frames := 1, cells := 0, slots := 0, locals := 60 } : Room).slots) := by
  refine MetFree.of_bodySF (plainFor_of_name pn0) hisR ?_
  intro p e s m args below meth c s₁ Bd hml0 hP hK
  obtain ⟨rfl, hZ, hh⟩ := hP
  have hx := Bd.exec
  have hby := Bd.bytes
  have B := fun {pc : Nat} {r} (h : decode jdk_42_method_147_code pc = r) => hb hby h
  have hml : c.maxLocals = 4 := hml0
  have hown : s.vm.findClass "java/lang/String" = some m.cls := findClass_of_methodNamed Bd.named
  have hnm := (name_of_methodNamed Bd.named Bd.method).1
  have X0 : Stand p l e ({ frames := 1, cells := 0, slots := 0, locals := 60 } : Room) s m #[(.ref sa), (.ref tb), (.int di), (.int (0 : Int32))] below meth c s₁ [] 0 0 := Stand.of_body Bd
  have e0 : s₁.heap = h0 := by rw [← hh, Bd.state]; rfl
  have N0 := Fr.nil n0
  have K0 : Keep h0 h0 [tb] := Keep.refl _ _
  have pre0 : ∀ tgt, Steps p.tables e below (s₁.setTop (mkF m 0 #[.val (.ref sa), .val (.ref tb), .val (.int di), .val (.int (0 : Int32))] [])) tgt → Steps p.tables e below (s₁.setTop (entryFrame m #[(.ref sa), (.ref tb), (.int di), (.int (0 : Int32))] 4)) tgt := fun tgt kgo => castTop (ef_rmgb m sa tb di) kgo
  obtain ⟨cq1, kq1, q1a, q1b, q1c⟩ := isOf hZ e0 Es
  obtain ⟨_, _, ⟨T1, L1, k1, n1⟩, -, X1, ⟨Lc1, hQ1, l1, y1, z1⟩, st1⟩ := X0.virtualBack hx (y := my12) (z := my12) hown (mvT hZ (ow50 hw)) (mvT hZ (ow51 hw)) (notFace_of_selects (args := #[]) (mvT hZ (ow53 hw))) (mvT hZ (ow53 hw)) (mvT hZ (ow52 hw)) (by decide) (backOf (W := 0) (rmcod l Z a0 hw [] sa G1 h0 n0 O0 O2 P5 Fsc) hZ (ow54 hw) (ow14 hw) (by decide) (by decide)) q1a q1c (g := (mkF m 1 #[(VR sa), (VR tb), (VI di), (VI 0)] [(.ref sa)])) rfl (by rw [hml]; rfl) (Steps.refl _) (argsL := []) (rest := []) (lenOf pd6 rfl) rfl (w0 rfl rfl) (B d14_1) (fun _ _ => ⟨rfl, e0, (by decide : 0 + 0 ≤ _), (by decide : 0 + 0 ≤ _)⟩)
  dsimp only [Pt.U, Pt.locs, Pt.cells, Pt.slots] at X1 l1 y1 z1 st1 hQ1
  rw [l1, y1, z1] at X1
  obtain ⟨rfl, Nq1, eq1⟩ := hQ1
  have N2 := Fr.app N0 Nq1
  obtain ⟨T3, X3, e3, st3⟩ := getF X1 hx hZ hown (host := "") (Or.inl (ow39 hw)) Via.refl eq1 Fsv (g := (mkF m 9 #[(VR sa), (VR tb), (VI di), (VI 0)] [(.ref sa)])) rfl rfl (B d14_9)
  have pre4 : ∀ tgt, Steps p.tables e below (T3.setTop (mkF m 17 #[(VR sa), (VR tb), (VI di), (VI 0)] [(.int (di <<< ((0 : Int32) &&& 31))), (.ref tb), (.int 0), (.ref ts)])) tgt → Steps p.tables e below (s₁.setTop (entryFrame m #[(.ref sa), (.ref tb), (.int di), (.int (0 : Int32))] 4)) tgt := by
    intro tgt kgo
    refine pre0 _ ?_
    refine XS.aloadN X0.here hx rfl (B d14_0) rfl rfl ?_
    refine st1.trans ?_
    show GO p e below T1 (mkF m 4 #[(VR sa), (VR tb), (VI di), (VI 0)] [(.int 0)]) _
    refine XS.iloadN X1.here hx rfl (B d14_4) rfl ?_
    refine XS.icmpNo X1.here hx rfl (B d14_5) rfl (teq (by decide : (0 : Int32) = (0 : Int32))).2 ?_
    show GO p e below T1 (mkF m 8 #[(VR sa), (VR tb), (VI di), (VI 0)] []) _
    refine XS.aloadN X1.here hx rfl (B d14_8) rfl rfl ?_
    refine st3 _ ?_
    show GO p e below T3 (mkF m 12 #[(VR sa), (VR tb), (VI di), (VI 0)] [(.ref ts)]) _
    refine XS.iconst X3.here hx rfl (B d14_12) ?_
    refine XS.aloadN X3.here hx rfl (B d14_13) rfl rfl ?_
    refine XS.iloadN X3.here hx rfl (B d14_14) rfl ?_
    refine XS.iloadN X3.here hx rfl (B d14_15) rfl ?_
    refine XS.ishl X3.here hx rfl (B d14_16) rfl ?_
    exact kgo
  have pre5 : ∀ tgt, Steps p.tables e below (T3.setTop (mkF m 17 #[(VR sa), (VR tb), (VI di), (VI 0)] [(.int di), (.ref tb), (.int 0), (.ref ts)])) tgt → Steps p.tables e below (s₁.setTop (entryFrame m #[(.ref sa), (.ref tb), (.int di), (.int (0 : Int32))] 4)) tgt := by
    have q := pre4
    simp only [own_shl0] at q
    exact q
  obtain ⟨T6, X6, e6, st6⟩ := getF X3 hx hZ hown (host := "") (Or.inl (ow39 hw)) Via.refl e3 Fsv (g := (mkF m 18 #[(VR sa), (VR tb), (VI di), (VI 0)] [(.ref sa), (.int di), (.ref tb), (.int 0), (.ref ts)])) rfl rfl (B d14_18)
  obtain ⟨cl7, Ar7, q7, S7, M7, H7, G7⟩ := id As
  have Vp : Arv Z h0 tb kb .byte (Int32.ofNat cp) (vs ++ List.replicate (cp - List.length vs) (.int (0 : Int32))) (.int (0 : Int32)) := At.pad (pad_rep vs _ _)
  obtain ⟨T9, h9, lo9, X9, e9, N9, kp9, V9, st9⟩ := cpA X6 hx hZ hown (ow110 hw) (ow113 hw) (ow111 hw) (ow112 hw) e6 As Vp (Or.inl ⟨rfl, rfl⟩) (us := ((List.map (fun c => c.toInt8.toInt32) ds).map Value.int)) (by decide) (by rw [hdi]; exact on_n0 (by omega)) (on_n0 (by omega)) (by rw [show (0 : Int32).toNatClampNeg = 0 from rfl]; omega) (by rw [hdi, on_cl (by omega), on_cl (by omega), on_cl (by omega)]; omega) (by rw [show (0 : Int32).toNatClampNeg = 0 from rfl, on_cl (by omega)]; simp only [Nat.zero_add]; rw [own_rg _ _ _ (by rw [own_bl]; exact Nat.le_refl _), List.take_of_length_le (by rw [own_bl]; exact Nat.le_refl _)]) (by rw [hdi, on_cl (by omega), on_cl (by omega), List.length_append, List.length_replicate]; omega) N2 gt (g := (mkF m 22 #[(VR sa), (VR tb), (VI di), (VI 0)] [(.int (Int32.ofNat (List.length ds))), (.int di), (.ref tb), (.int 0), (.ref ts)])) rfl (by rw [hml]; rfl) rfl (B d14_22) (by decide) (W := 0) (by show 2 * 0 + _ ≤ _; exact Nat.le_of_eq rfl) (by decide)
  have Ol10 := O0.keep kp9 (allS gt all0)
  have K10 := K0.trans kp9 (allS (Or.inl (List.mem_of_getElem? (i := 0) rfl)) all0)
  have Vc9 : Arv Z h9 tb kb .byte (Int32.ofNat cp) (vs ++ ((List.map (fun c => c.toInt8.toInt32) ds).map Value.int)) (.int (0 : Int32)) := (V9.pad (fun i => own_padg (by rw [hdi]; exact on_cl (by omega)) (by rw [own_bl]; exact on_cl (by omega)) (by rw [own_bl]; omega) i))
  obtain ⟨fs, hretL, hrun, hended, hW, hsame⟩ := X9.leave (v := none) (fun _ => rfl)
  refine ⟨_, _, pre5 _ ?_, hrun, hended, _, _, rfl, ?_, ⟨_, rfl⟩, hW, hsame.mono (by decide) (by decide)⟩
  · refine XS.aloadN X3.here hx rfl (B d14_17) rfl rfl ?_
    refine st6 _ ?_
    show GO p e below T6 (mkF m 21 #[(VR sa), (VR tb), (VI di), (VI 0)] [(.ref ts), (.int di), (.ref tb), (.int 0), (.ref ts)]) _
    refine X6.arraylength hx (by rw [e6]; exact Ar7.1) (State.isArrayOf_alike hZ.alike Ar7.2.1) (g := (mkF m 21 #[.val (.ref sa), .val (.ref tb), .val (.int di), .val (.int (0 : Int32))] [(.ref ts), (.int di), (.ref tb), (.int (0 : Int32)), (.ref ts)])) rfl rfl (B d14_21) _ ?_
    rw [len_of S7 M7]
    show GO p e below T6 (mkF m 22 #[(VR sa), (VR tb), (VI di), (VI 0)] [(.int (Int32.ofNat (List.length ds))), (.int di), (.ref tb), (.int 0), (.ref ts)]) _
    refine st9 _ ?_
    show GO p e below T9 (mkF m 25 #[(VR sa), (VR tb), (VI di), (VI 0)] []) _
    refine XS.goto X9.here hx rfl (pc0 := 25) (pc' := 43) rfl (B d14_25) (by decide) (by decide) ?_
    exact X9.returnOut hx Bd.returns (B d14_43) hretL
  · show Q_rmgb Z sa tb di ts ks ds kb vs cp G1 h0 n0 _ T9.heap _
    rw [e9]
    exact ⟨rfl, N9, K10, Vc9⟩
theorem d15_0 : decode jdk_68_method_73_code 0 = .ok (.aload_n 0, 1) := by decide +kernel
theorem d15_1 : decode jdk_68_method_73_code 1 = .ok (.aload_n 2, 1) := by decide +kernel
theorem d15_2 : decode jdk_68_method_73_code 2 = .ok (.invokevirtual 397, 3) := by decide +kernel
theorem d15_5 : decode jdk_68_method_73_code 5 = .ok (.aload_n 2, 1) := by decide +kernel
theorem d15_6 : decode jdk_68_method_73_code 6 = .ok (.aload_n 0, 1) := by decide +kernel
theorem d15_7 : decode jdk_68_method_73_code 7 = .ok (.getfield 15, 3) := by decide +kernel
theorem d15_10 : decode jdk_68_method_73_code 10 = .ok (.iload_n 1, 1) := by decide +kernel
theorem d15_11 : decode jdk_68_method_73_code 11 = .ok (.aload_n 0, 1) := by decide +kernel
theorem d15_12 : decode jdk_68_method_73_code 12 = .ok (.getfield 22, 3) := by decide +kernel
theorem d15_15 : decode jdk_68_method_73_code 15 = .ok (.invokevirtual 399, 3) := by decide +kernel
theorem d15_18 : decode jdk_68_method_73_code 18 = .ok (.return_, 1) := by decide +kernel
def Q_rmps (Z : State) (a : Addr) (di : Int32) (sa : Addr) (tb : Addr) (ts : Addr) (ks : ClassId) (ds : List Int32) (kb : ClassId) (vs : List Value) (cp : Nat) (G1 : Int32) (h0 : Heap) (n0 : Nat) (v : Option Value) (h : Heap) (L : List Loc) : Prop := v = none ∧ Fr n0 L ∧ Keep h0 h [tb] ∧ Arv Z h tb kb .byte (Int32.ofNat cp) (vs ++ ((List.map (fun c => c.toInt8.toInt32) ds).map Value.int)) (.int (0 : Int32))
theorem ef_rmps (m : MethodId) (a : Addr) (di : Int32) (sa : Addr) : entryFrame m #[(.ref a), (.int di), (.ref sa)] 3 = mkF m 0 #[.val (.ref a), .val (.int di), .val (.ref sa)] [] := by first | (simp [entryFrame, mkF, argsToLocals, Value.category]; done) | rfl
set_option maxRecDepth 65536 in
set_option maxHeartbeats 40000000 in
theorem rmps (l : Launch) (Z : State) (a0 : Array Value) (hw : HW a0 Z) (ws : List Jvm.Cond) (a : Addr) (di : Int32) (sa : Addr) (tb : Addr) (ts : Addr) (ks : ClassId) (ds : List Int32) (kb : ClassId) (vs : List Value) (cp : Nat) (G1 : Int32) (h0 : Heap) (n0 : Nat) (O0 : Old Z n0 h0) (O2 : Sta Z Z.heap "java/lang/String" "COMPACT_STRINGS" "Z" (.int G1)) (P5 : ¬ (G1 = (0 : Int32))) (Ea : Exa Z h0 a "java/lang/StringBuilder") (Fv : Fld Z h0 a "java/lang/AbstractStringBuilder" "value" "[B" (.ref tb)) (Fc : Fld Z h0 a "java/lang/AbstractStringBuilder" "coder" "B" (.int (0 : Int32))) (Es : Exa Z h0 sa "java/lang/String") (Fsc : Fld Z h0 sa "java/lang/String" "coder" "B" (.int (0 : Int32))) (Fsv : Fld Z h0 sa "java/lang/String" "value" "[B" (.ref ts)) (As : Arv Z h0 ts ks .byte (Int32.ofNat (List.length ds)) ((List.map (fun c => c.toInt8.toInt32) ds).map Value.int) (.int (0 : Int32))) (At : Arv Z h0 tb kb .byte (Int32.ofNat cp) vs (.int (0 : Int32))) (hdi : di = Int32.ofNat (List.length vs)) (hcp : List.length vs + List.length ds ≤ cp) (hbd : cp ≤ 1000) (gt : n0 ≤ tb) :
    MetFree l my15 (head1 (Jvm.Cond.code my15 jdk_68_method_73_code 3 none :: ws) ({ frames := 2, cells := 0, slots := 0, locals := 75 } : Room)) (fun aa U => aa = #[(.ref a), (.int di), (.ref sa)] ∧ Z.Warmed39 U.vm ∧ U.heap = h0) (fun _ _ _ _ _ => True) (fun _ U o U' => ∃ v L, o = .returned v ∧ Q_rmps Z a di sa tb ts ks ds kb vs cp G1 h0 n0 v U'.heap L ∧ FrameEnd U o U' L ({ frames := 2, cells := 0, slots := 0, locals := 75 } : Room).cells ({ frames := 2, cells := 0, slots := 0, locals := 75 } : Room).slots) := by
  refine MetFree.of_bodySF (plainFor_of_name pn4) hisR ?_
  intro p e s m args below meth c s₁ Bd hml0 hP hK
  obtain ⟨rfl, hZ, hh⟩ := hP
  have hx := Bd.exec
  have hby := Bd.bytes
  have B := fun {pc : Nat} {r} (h : decode jdk_68_method_73_code pc = r) => hb hby h
  have hml : c.maxLocals = 3 := hml0
  have hown : s.vm.findClass "java/lang/AbstractStringBuilder" = some m.cls := findClass_of_methodNamed Bd.named
  have hnm := (name_of_methodNamed Bd.named Bd.method).1
  have X0 : Stand p l e ({ frames := 2, cells := 0, slots := 0, locals := 75 } : Room) s m #[(.ref a), (.int di), (.ref sa)] below meth c s₁ [] 0 0 := Stand.of_body Bd
  have e0 : s₁.heap = h0 := by rw [← hh, Bd.state]; rfl
  have N0 := Fr.nil n0
  have K0 : Keep h0 h0 [tb] := Keep.refl _ _
  have pre0 : ∀ tgt, Steps p.tables e below (s₁.setTop (mkF m 0 #[.val (.ref a), .val (.int di), .val (.ref sa)] [])) tgt → Steps p.tables e below (s₁.setTop (entryFrame m #[(.ref a), (.int di), (.ref sa)] 3)) tgt := fun tgt kgo => castTop (ef_rmps m a di sa) kgo
  obtain ⟨cq1, kq1, q1a, q1b, q1c⟩ := isOf hZ e0 Ea
  obtain ⟨_, _, ⟨T1, L1, k1, n1⟩, -, X1, ⟨Lc1, hQ1, l1, y1, z1⟩, st1⟩ := X0.virtualBack hx (y := my13) (z := my13) hown (mvT hZ (ow99 hw)) (mvT hZ (own_decl (ow100 hw) (ow103 hw))) (notFace_of_selects (args := #[]) (mvT hZ (ow102 hw))) (mvT hZ (ow102 hw)) (mvT hZ (ow100 hw)) (by decide) (backOf (W := 0) (rminf l Z a0 hw [] a sa G1 h0 n0 O0 O2 P5 Es Fsc Fc) hZ (ow103 hw) (ow65 hw) (by decide) (by decide)) q1a q1c (g := (mkF m 2 #[(VR a), (VI di), (VR sa)] [(.ref sa), (.ref a)])) rfl (by rw [hml]; rfl) (Steps.refl _) (argsL := [(.ref sa)]) (rest := []) (lenOf pd7 rfl) rfl (w0 rfl rfl) (B d15_2) (fun _ _ => ⟨rfl, e0, (by decide : 0 + 0 ≤ _), (by decide : 0 + 0 ≤ _)⟩)
  dsimp only [Pt.U, Pt.locs, Pt.cells, Pt.slots] at X1 l1 y1 z1 st1 hQ1
  rw [l1, y1, z1] at X1
  obtain ⟨rfl, Nq1, eq1⟩ := hQ1
  have N2 := Fr.app N0 Nq1
  obtain ⟨T3, X3, e3, st3⟩ := getF X1 hx hZ hown (host := "") (Or.inl (ow69 hw)) Via.refl eq1 Fv (g := (mkF m 7 #[(VR a), (VI di), (VR sa)] [(.ref a), (.ref sa)])) rfl rfl (B d15_7)
  obtain ⟨T4, X4, e4, st4⟩ := getF X3 hx hZ hown (host := "") (Or.inl (ow71 hw)) Via.refl e3 Fc (g := (mkF m 12 #[(VR a), (VI di), (VR sa)] [(.ref a), (.int di), (.ref tb), (.ref sa)])) rfl rfl (B d15_12)
  obtain ⟨cq5, kq5, q5a, q5b, q5c⟩ := isOf hZ e4 Es
  obtain ⟨_, _, ⟨T5, L5, k5, n5⟩, -, X5, ⟨Lc5, hQ5, l5, y5, z5⟩, st5⟩ := X4.virtualBack hx (y := my14) (z := my14) hown (mvT hZ (ow105 hw)) (mvT hZ (ow106 hw)) (notFace_of_selects (args := #[]) (mvT hZ (ow108 hw))) (mvT hZ (ow108 hw)) (mvT hZ (ow107 hw)) (by decide) (backOf (W := 0) (rmgb l Z a0 hw [] sa tb di ts ks ds kb vs cp G1 h0 n0 O0 O2 P5 Es Fsc Fsv As At hdi hcp hbd gt) hZ (ow109 hw) (ow14 hw) (by decide) (by decide)) q5a q5c (g := (mkF m 15 #[(VR a), (VI di), (VR sa)] [(.int 0), (.int di), (.ref tb), (.ref sa)])) rfl (by rw [hml]; rfl) (Steps.refl _) (argsL := [(.ref tb), (.int di), (.int 0)]) (rest := []) (lenOf pd8 rfl) rfl (w0 rfl rfl) (B d15_15) (fun _ _ => ⟨rfl, e4, (by decide : 0 + 0 ≤ _), (by decide : 0 + 0 ≤ _)⟩)
  dsimp only [Pt.U, Pt.locs, Pt.cells, Pt.slots] at X5 l5 y5 z5 st5 hQ5
  rw [l5, y5, z5] at X5
  obtain ⟨rfl, Nq5, kp5, nA5⟩ := hQ5
  have N6 := Fr.app N2 Nq5
  have Ol7 := O0.keep kp5 (allS gt all0)
  have K7 := K0.trans kp5 (allS (Or.inl (List.mem_of_getElem? (i := 0) rfl)) all0)
  obtain ⟨fs, hretL, hrun, hended, hW, hsame⟩ := X5.leave (v := none) (fun _ => rfl)
  refine ⟨_, _, pre0 _ ?_, hrun, hended, _, _, rfl, ?_, ⟨_, rfl⟩, hW, hsame.mono (by decide) (by decide)⟩
  · refine XS.aloadN X0.here hx rfl (B d15_0) rfl rfl ?_
    refine XS.aloadN X0.here hx rfl (B d15_1) rfl rfl ?_
    refine st1.trans ?_
    show GO p e below T1 (mkF m 5 #[(VR a), (VI di), (VR sa)] []) _
    refine XS.aloadN X1.here hx rfl (B d15_5) rfl rfl ?_
    refine XS.aloadN X1.here hx rfl (B d15_6) rfl rfl ?_
    refine st3 _ ?_
    show GO p e below T3 (mkF m 10 #[(VR a), (VI di), (VR sa)] [(.ref tb), (.ref sa)]) _
    refine XS.iloadN X3.here hx rfl (B d15_10) rfl ?_
    refine XS.aloadN X3.here hx rfl (B d15_11) rfl rfl ?_
    refine st4 _ ?_
    show GO p e below T4 (mkF m 15 #[(VR a), (VI di), (VR sa)] [(.int 0), (.int di), (.ref tb), (.ref sa)]) _
    refine st5.trans ?_
    show GO p e below T5 (mkF m 18 #[(VR a), (VI di), (VR sa)] []) _
    exact X5.returnOut hx Bd.returns (B d15_18) hretL
  · show Q_rmps Z a di sa tb ts ks ds kb vs cp G1 h0 n0 _ T5.heap _
    exact ⟨rfl, N6, K7, nA5⟩
theorem d16_0 : decode jdk_68_method_22_code 0 = .ok (.aload_n 1, 1) := by decide +kernel
theorem d16_1 : decode jdk_68_method_22_code 1 = .ok (.ifnonnull 8, 3) := by decide +kernel
theorem d16_9 : decode jdk_68_method_22_code 9 = .ok (.aload_n 1, 1) := by decide +kernel
theorem d16_10 : decode jdk_68_method_22_code 10 = .ok (.invokevirtual 32, 3) := by decide +kernel
theorem d16_13 : decode jdk_68_method_22_code 13 = .ok (.istore_n 2, 1) := by decide +kernel
theorem d16_14 : decode jdk_68_method_22_code 14 = .ok (.aload_n 0, 1) := by decide +kernel
theorem d16_15 : decode jdk_68_method_22_code 15 = .ok (.aload_n 0, 1) := by decide +kernel
theorem d16_16 : decode jdk_68_method_22_code 16 = .ok (.getfield 79, 3) := by decide +kernel
theorem d16_19 : decode jdk_68_method_22_code 19 = .ok (.iload_n 2, 1) := by decide +kernel
theorem d16_20 : decode jdk_68_method_22_code 20 = .ok (.iadd, 1) := by decide +kernel
theorem d16_21 : decode jdk_68_method_22_code 21 = .ok (.invokevirtual 100, 3) := by decide +kernel
theorem d16_24 : decode jdk_68_method_22_code 24 = .ok (.aload_n 0, 1) := by decide +kernel
theorem d16_25 : decode jdk_68_method_22_code 25 = .ok (.aload_n 0, 1) := by decide +kernel
theorem d16_26 : decode jdk_68_method_22_code 26 = .ok (.getfield 79, 3) := by decide +kernel
theorem d16_29 : decode jdk_68_method_22_code 29 = .ok (.aload_n 1, 1) := by decide +kernel
theorem d16_30 : decode jdk_68_method_22_code 30 = .ok (.invokevirtual 208, 3) := by decide +kernel
theorem d16_33 : decode jdk_68_method_22_code 33 = .ok (.aload_n 0, 1) := by decide +kernel
theorem d16_34 : decode jdk_68_method_22_code 34 = .ok (.dup, 1) := by decide +kernel
theorem d16_35 : decode jdk_68_method_22_code 35 = .ok (.getfield 79, 3) := by decide +kernel
theorem d16_38 : decode jdk_68_method_22_code 38 = .ok (.iload_n 2, 1) := by decide +kernel
theorem d16_39 : decode jdk_68_method_22_code 39 = .ok (.iadd, 1) := by decide +kernel
theorem d16_40 : decode jdk_68_method_22_code 40 = .ok (.putfield 79, 3) := by decide +kernel
theorem d16_43 : decode jdk_68_method_22_code 43 = .ok (.aload_n 0, 1) := by decide +kernel
theorem d16_44 : decode jdk_68_method_22_code 44 = .ok (.areturn, 1) := by decide +kernel
def Q_rman (Z : State) (a : Addr) (sa : Addr) (tb : Addr) (kb : ClassId) (cp : Nat) (cs : List Int32) (ds : List Int32) (G1 : Int32) (h0 : Heap) (n0 : Nat) (v : Option Value) (h : Heap) (L : List Loc) : Prop := v = some (.ref a) ∧ Fr n0 L ∧ Keep h0 h [a, tb] ∧ Fld Z h a "java/lang/AbstractStringBuilder" "value" "[B" (.ref tb) ∧ Fld Z h a "java/lang/AbstractStringBuilder" "coder" "B" (.int (0 : Int32)) ∧ Fld Z h a "java/lang/AbstractStringBuilder" "count" "I" (.int (Int32.ofNat (List.length (cs ++ ds)))) ∧ Arv Z h tb kb .byte (Int32.ofNat cp) ((List.map (fun c => c.toInt8.toInt32) (cs ++ ds)).map Value.int) (.int (0 : Int32))
theorem ef_rman (m : MethodId) (a : Addr) (sa : Addr) : entryFrame m #[(.ref a), (.ref sa)] 3 = mkF m 0 #[.val (.ref a), .val (.ref sa), .unset] [] := by first | (simp [entryFrame, mkF, argsToLocals, Value.category]; done) | rfl
set_option maxRecDepth 65536 in
set_option maxHeartbeats 40000000 in
theorem rman (l : Launch) (Z : State) (a0 : Array Value) (hw : HW a0 Z) (ws : List Jvm.Cond) (a : Addr) (sa : Addr) (tb : Addr) (kb : ClassId) (cp : Nat) (cs : List Int32) (ds : List Int32) (G1 : Int32) (h0 : Heap) (n0 : Nat) (O0 : Old Z n0 h0) (O2 : Sta Z Z.heap "java/lang/String" "COMPACT_STRINGS" "Z" (.int G1)) (P5 : ¬ (G1 = (0 : Int32))) (Ea : Exa Z h0 a "java/lang/StringBuilder") (Fv : Fld Z h0 a "java/lang/AbstractStringBuilder" "value" "[B" (.ref tb)) (Fc : Fld Z h0 a "java/lang/AbstractStringBuilder" "coder" "B" (.int (0 : Int32))) (Fn : Fld Z h0 a "java/lang/AbstractStringBuilder" "count" "I" (.int (Int32.ofNat (List.length cs)))) (At : Arv Z h0 tb kb .byte (Int32.ofNat cp) ((List.map (fun c => c.toInt8.toInt32) cs).map Value.int) (.int (0 : Int32))) (ga : n0 ≤ a) (gt : n0 ≤ tb) (Ss : StrP Z h0 sa ds) (hcs : List.length cs ≤ cp) (hle : List.length cs + List.length ds ≤ cp) (hcp : cp ≤ 1000) :
    MetFree l my17 (head1 (Jvm.Cond.code my17 jdk_68_method_22_code 3 (some (.object "java/lang/AbstractStringBuilder")) :: ws) ({ frames := 3, cells := 0, slots := 0, locals := 89 } : Room)) (fun aa U => aa = #[(.ref a), (.ref sa)] ∧ Z.Warmed39 U.vm ∧ U.heap = h0) (fun _ _ _ _ _ => True) (fun _ U o U' => ∃ v L, o = .returned v ∧ Q_rman Z a sa tb kb cp cs ds G1 h0 n0 v U'.heap L ∧ FrameEnd U o U' L ({ frames := 3, cells := 0, slots := 0, locals := 89 } : Room).cells ({ frames := 3, cells := 0, slots := 0, locals := 89 } : Room).slots) := by
  refine MetFree.of_bodySF (plainFor_of_name pn4) hisR ?_
  intro p e s m args below meth c s₁ Bd hml0 hP hK
  obtain ⟨rfl, hZ, hh⟩ := hP
  have hx := Bd.exec
  have hby := Bd.bytes
  have B := fun {pc : Nat} {r} (h : decode jdk_68_method_22_code pc = r) => hb hby h
  have hml : c.maxLocals = 3 := hml0
  have hown : s.vm.findClass "java/lang/AbstractStringBuilder" = some m.cls := findClass_of_methodNamed Bd.named
  have hnm := (name_of_methodNamed Bd.named Bd.method).1
  have X0 : Stand p l e ({ frames := 3, cells := 0, slots := 0, locals := 89 } : Room) s m #[(.ref a), (.ref sa)] below meth c s₁ [] 0 0 := Stand.of_body Bd
  have e0 : s₁.heap = h0 := by rw [← hh, Bd.state]; rfl
  have N0 := Fr.nil n0
  have K0 : Keep h0 h0 [a, tb] := Keep.refl _ _
  have pre0 : ∀ tgt, Steps p.tables e below (s₁.setTop (mkF m 0 #[.val (.ref a), .val (.ref sa), .unset] [])) tgt → Steps p.tables e below (s₁.setTop (entryFrame m #[(.ref a), (.ref sa)] 3)) tgt := fun tgt kgo => castTop (ef_rman m a sa) kgo
  obtain ⟨sED, sCD, spD, slD, tD, skD, sVD, sAD⟩ := id Ss
  have nea : a ≠ tb := Exa.neArv Ea At (ow56 hw)
  have nes : a ≠ sa := Exa.ne Ea sED (by decide)
  have net : a ≠ tD := Exa.neArv Ea sAD (ow56 hw)
  have nst : sa ≠ tb := Exa.neArv sED At (ow13 hw)
  obtain ⟨cq1, kq1, q1a, q1b, q1c⟩ := isOf hZ e0 sED
  obtain ⟨_, _, ⟨T1, L1, k1, n1⟩, -, X1, ⟨Lc1, hQ1, l1, y1, z1⟩, st1⟩ := X0.virtualBack hx (y := my16) (z := my16) hown (mvT hZ (ow86 hw)) (mvT hZ (ow46 hw)) (notFace_of_selects (args := #[]) (mvT hZ (ow48 hw))) (mvT hZ (ow48 hw)) (mvT hZ (ow47 hw)) (by decide) (StrChars.Road.lenW (W := 0) hZ (own_wlen hw) (kI := 4) (ow13 hw) (cs := ds) sED sVD sCD sAD (StrChars.Road.codOf rfl (fun c hc => (spD c hc).2)) (own_up _ spD) (O2.ext O0.2) P5 slD (by decide) (by decide)) q1a q1c (g := (mkF m 10 #[(VR a), (VR sa), .unset] [(.ref sa)])) rfl (by rw [hml]; rfl) (Steps.refl _) (argsL := []) (rest := []) (lenOf pd9 rfl) rfl (w0 rfl rfl) (B d16_10) (fun _ _ => ⟨rfl, e0, (by decide : 0 + 0 ≤ _), (by decide : 0 + 0 ≤ _)⟩)
  dsimp only [Pt.U, Pt.locs, Pt.cells, Pt.slots] at X1 l1 y1 z1 st1 hQ1
  rw [l1, y1, z1] at X1
  obtain ⟨rfl, hL1, eq1⟩ := hQ1
  have Nq1 := own_frn hL1 n0
  have N2 := Fr.app N0 Nq1
  obtain ⟨T3, X3, e3, st3⟩ := getF X1 hx hZ hown (host := "") (Or.inl (ow87 hw)) Via.refl eq1 Fn (g := (mkF m 16 #[(VR a), (VR sa), (VI (Int32.ofNat (List.length ds)))] [(.ref a), (.ref a)])) rfl rfl (B d16_16)
  obtain ⟨cq4, kq4, q4a, q4b, q4c⟩ := isOf hZ e3 Ea
  obtain ⟨_, _, ⟨T4, L4, k4, n4⟩, -, X4, ⟨Lc4, hQ4, l4, y4, z4⟩, st4⟩ := X3.virtualBack hx (y := my11) (z := my11) hown (mvT hZ (ow89 hw)) (mvT hZ (own_decl (ow90 hw) (ow93 hw))) (notFace_of_selects (args := #[]) (mvT hZ (ow92 hw))) (mvT hZ (ow92 hw)) (mvT hZ (ow90 hw)) (by decide) (backOf (W := 0) (rmen l Z a0 hw [] a ((Int32.ofNat (List.length cs)) + (Int32.ofNat (List.length ds))) tb kb ((List.map (fun c => c.toInt8.toInt32) cs).map Value.int) cp (List.length cs + List.length ds) h0 n0 O0 Fv Fc At (on_add _ _) hle hcp) hZ (ow93 hw) (ow65 hw) (by decide) (by decide)) q4a q4c (g := (mkF m 21 #[(VR a), (VR sa), (VI (Int32.ofNat (List.length ds)))] [(.int ((Int32.ofNat (List.length cs)) + (Int32.ofNat (List.length ds)))), (.ref a)])) rfl (by rw [hml]; rfl) (Steps.refl _) (argsL := [(.int ((Int32.ofNat (List.length cs)) + (Int32.ofNat (List.length ds))))]) (rest := []) (lenOf pd10 rfl) rfl (w0 rfl rfl) (B d16_21) (fun _ _ => ⟨rfl, e3, (by decide : 0 + 0 ≤ _), (by decide : 0 + 0 ≤ _)⟩)
  dsimp only [Pt.U, Pt.locs, Pt.cells, Pt.slots] at X4 l4 y4 z4 st4 hQ4
  rw [l4, y4, z4] at X4
  obtain ⟨rfl, Nq4, eq4⟩ := hQ4
  have N5 := Fr.app N2 Nq4
  obtain ⟨T6, X6, e6, st6⟩ := getF X4 hx hZ hown (host := "") (Or.inl (ow87 hw)) Via.refl eq4 Fn (g := (mkF m 26 #[(VR a), (VR sa), (VI (Int32.ofNat (List.length ds)))] [(.ref a), (.ref a)])) rfl rfl (B d16_26)
  obtain ⟨cq7, kq7, q7a, q7b, q7c⟩ := isOf hZ e6 Ea
  obtain ⟨_, _, ⟨T7, L7, k7, n7⟩, -, X7, ⟨Lc7, hQ7, l7, y7, z7⟩, st7⟩ := X6.virtualBack hx (y := my15) (z := my15) hown (mvT hZ (ow94 hw)) (mvT hZ (own_decl (ow95 hw) (ow98 hw))) (notFace_of_selects (args := #[]) (mvT hZ (ow97 hw))) (mvT hZ (ow97 hw)) (mvT hZ (ow95 hw)) (by decide) (backOf (W := 0) (rmps l Z a0 hw [] a (Int32.ofNat (List.length cs)) sa tb tD skD ds kb ((List.map (fun c => c.toInt8.toInt32) cs).map Value.int) cp G1 h0 n0 O0 O2 P5 Ea Fv Fc sED sCD sVD sAD At (by rw [own_bl]) (by rw [own_bl]; omega) (by omega) gt) hZ (ow98 hw) (ow65 hw) (by decide) (by decide)) q7a q7c (g := (mkF m 30 #[(VR a), (VR sa), (VI (Int32.ofNat (List.length ds)))] [(.ref sa), (.int (Int32.ofNat (List.length cs))), (.ref a)])) rfl (by rw [hml]; rfl) (Steps.refl _) (argsL := [(.int (Int32.ofNat (List.length cs))), (.ref sa)]) (rest := []) (lenOf pd11 rfl) rfl (w0 rfl rfl) (B d16_30) (fun _ _ => ⟨rfl, e6, (by decide : 0 + 0 ≤ _), (by decide : 0 + 0 ≤ _)⟩)
  dsimp only [Pt.U, Pt.locs, Pt.cells, Pt.slots] at X7 l7 y7 z7 st7 hQ7
  rw [l7, y7, z7] at X7
  obtain ⟨rfl, Nq7, kp7, nA7⟩ := hQ7
  have N8 := Fr.app N5 Nq7
  have Ol9 := O0.keep kp7 (allS gt all0)
  have K9 := K0.trans kp7 (allS (Or.inl (List.mem_of_getElem? (i := 1) rfl)) all0)
  have f10 := (Fn.keep kp7 (ninS nea nin0))
  obtain ⟨T11, X11, e11, st11⟩ := getF X7 hx hZ hown (host := "") (Or.inl (ow87 hw)) Via.refl rfl f10 (g := (mkF m 35 #[(VR a), (VR sa), (VI (Int32.ofNat (List.length ds)))] [(.ref a), (.ref a)])) rfl rfl (B d16_35)
  have f12 := (Ea.keep kp7)
  obtain ⟨T13, h13, X13, e13, W13, st13⟩ := putF X11 hx hZ hown (host := "") (Or.inl (ow87 hw)) Via.refl e11 f10 f12 (Or.inl (ow88 hw)) (ow56 hw) (ty := .int) (by decide) rfl rfl (g := (mkF m 40 #[(VR a), (VR sa), (VI (Int32.ofNat (List.length ds)))] [(.int ((Int32.ofNat (List.length cs)) + (Int32.ofNat (List.length ds)))), (.ref a)])) rfl rfl (B d16_40)
  have Fw13 := f10.same W13
  have N14 := Fr.snoc X13 N8 ga
  have Ol14 := Ol9.wr W13 ga
  have K14 := K9.wr W13 (Or.inl (List.mem_of_getElem? (i := 0) rfl))
  have f15 := ((Fv.keep kp7 (ninS nea nin0)).other W13 (Or.inr (slot_ne (Or.inl (ow70 hw)) (Or.inl (ow88 hw)) (by decide) (t := (.array .byte)) (t' := .int) (by decide) (by decide))))
  have f16 := ((Fc.keep kp7 (ninS nea nin0)).other W13 (Or.inr (slot_ne (Or.inl (ow72 hw)) (Or.inl (ow88 hw)) (by decide) (t := .byte) (t' := .int) (by decide) (by decide))))
  have f17 := (nA7.other W13 (Ne.symm nea))
  obtain ⟨fs, hretL, hrun, hended, hW, hsame⟩ := X13.leave (v := some (.ref a)) (fun h => by rw [Bd.returns] at h; cases h)
  refine ⟨_, _, pre0 _ ?_, hrun, hended, _, _, rfl, ?_, ⟨_, rfl⟩, hW, hsame.mono (by decide) (by decide)⟩
  · refine XS.aloadN X0.here hx rfl (B d16_0) rfl rfl ?_
    refine XS.ifnonnullYes X0.here hx rfl (pc0 := 1) (pc' := 9) rfl (B d16_1) rfl (by decide) (by decide) ?_
    show GO p e below s₁ (mkF m 9 #[(VR a), (VR sa), .unset] []) _
    refine XS.aloadN X0.here hx rfl (B d16_9) rfl rfl ?_
    refine st1.trans ?_
    show GO p e below T1 (mkF m 13 #[(VR a), (VR sa), .unset] [(.int (Int32.ofNat (List.length ds)))]) _
    refine XS.istoreN X1.here hx rfl (B d16_13) rfl (l' := #[.val (.ref a), .val (.ref sa), .val (.int (Int32.ofNat (List.length ds)))]) rfl ?_
    refine XS.aloadN X1.here hx rfl (B d16_14) rfl rfl ?_
    refine XS.aloadN X1.here hx rfl (B d16_15) rfl rfl ?_
    refine st3 _ ?_
    show GO p e below T3 (mkF m 19 #[(VR a), (VR sa), (VI (Int32.ofNat (List.length ds)))] [(.int (Int32.ofNat (List.length cs))), (.ref a)]) _
    refine XS.iloadN X3.here hx rfl (B d16_19) rfl ?_
    refine XS.iadd X3.here hx rfl (B d16_20) rfl ?_
    refine st4.trans ?_
    show GO p e below T4 (mkF m 24 #[(VR a), (VR sa), (VI (Int32.ofNat (List.length ds)))] []) _
    refine XS.aloadN X4.here hx rfl (B d16_24) rfl rfl ?_
    refine XS.aloadN X4.here hx rfl (B d16_25) rfl rfl ?_
    refine st6 _ ?_
    show GO p e below T6 (mkF m 29 #[(VR a), (VR sa), (VI (Int32.ofNat (List.length ds)))] [(.int (Int32.ofNat (List.length cs))), (.ref a)]) _
    refine XS.aloadN X6.here hx rfl (B d16_29) rfl rfl ?_
    refine st7.trans ?_
    show GO p e below T7 (mkF m 33 #[(VR a), (VR sa), (VI (Int32.ofNat (List.length ds)))] []) _
    refine XS.aloadN X7.here hx rfl (B d16_33) rfl rfl ?_
    refine XS.dup X7.here hx rfl (B d16_34) rfl rfl ?_
    refine st11 _ ?_
    show GO p e below T11 (mkF m 38 #[(VR a), (VR sa), (VI (Int32.ofNat (List.length ds)))] [(.int (Int32.ofNat (List.length cs))), (.ref a)]) _
    refine XS.iloadN X11.here hx rfl (B d16_38) rfl ?_
    refine XS.iadd X11.here hx rfl (B d16_39) rfl ?_
    refine st13 _ ?_
    show GO p e below T13 (mkF m 43 #[(VR a), (VR sa), (VI (Int32.ofNat (List.length ds)))] []) _
    refine XS.aloadN X13.here hx rfl (B d16_43) rfl rfl ?_
    exact retOut X13 hx Bd.returns rfl (Or.inr (Or.inr (Or.inr (Or.inr ⟨rfl, rfl, rfl⟩)))) (B d16_44) hretL
  · show Q_rman Z a sa tb kb cp cs ds G1 h0 n0 _ T13.heap _
    rw [e13]
    exact ⟨rfl, N14, K14, f15, f16, (by have q := Fw13; rw [on_add, ← List.length_append] at q; exact q), (by have q := f17; rw [own_ba] at q; exact q)⟩
theorem d17_0 : decode jdk_67_method_7_code 0 = .ok (.aload_n 0, 1) := by decide +kernel
theorem d17_1 : decode jdk_67_method_7_code 1 = .ok (.aload_n 1, 1) := by decide +kernel
theorem d17_2 : decode jdk_67_method_7_code 2 = .ok (.invokespecial 29, 3) := by decide +kernel
theorem d17_5 : decode jdk_67_method_7_code 5 = .ok (.pop, 1) := by decide +kernel
theorem d17_6 : decode jdk_67_method_7_code 6 = .ok (.aload_n 0, 1) := by decide +kernel
theorem d17_7 : decode jdk_67_method_7_code 7 = .ok (.areturn, 1) := by decide +kernel
def Q_rmbn (Z : State) (a : Addr) (sa : Addr) (tb : Addr) (kb : ClassId) (cp : Nat) (cs : List Int32) (ds : List Int32) (G1 : Int32) (h0 : Heap) (n0 : Nat) (v : Option Value) (h : Heap) (L : List Loc) : Prop := v = some (.ref a) ∧ Fr n0 L ∧ Keep h0 h [a, tb] ∧ Fld Z h a "java/lang/AbstractStringBuilder" "value" "[B" (.ref tb) ∧ Fld Z h a "java/lang/AbstractStringBuilder" "coder" "B" (.int (0 : Int32)) ∧ Fld Z h a "java/lang/AbstractStringBuilder" "count" "I" (.int (Int32.ofNat (List.length (cs ++ ds)))) ∧ Arv Z h tb kb .byte (Int32.ofNat cp) ((List.map (fun c => c.toInt8.toInt32) (cs ++ ds)).map Value.int) (.int (0 : Int32))
theorem ef_rmbn (m : MethodId) (a : Addr) (sa : Addr) : entryFrame m #[(.ref a), (.ref sa)] 2 = mkF m 0 #[.val (.ref a), .val (.ref sa)] [] := by first | (simp [entryFrame, mkF, argsToLocals, Value.category]; done) | rfl
set_option maxRecDepth 65536 in
set_option maxHeartbeats 40000000 in
theorem rmbn (l : Launch) (Z : State) (a0 : Array Value) (hw : HW a0 Z) (ws : List Jvm.Cond) (a : Addr) (sa : Addr) (tb : Addr) (kb : ClassId) (cp : Nat) (cs : List Int32) (ds : List Int32) (G1 : Int32) (h0 : Heap) (n0 : Nat) (O0 : Old Z n0 h0) (O2 : Sta Z Z.heap "java/lang/String" "COMPACT_STRINGS" "Z" (.int G1)) (P5 : ¬ (G1 = (0 : Int32))) (Ea : Exa Z h0 a "java/lang/StringBuilder") (Fv : Fld Z h0 a "java/lang/AbstractStringBuilder" "value" "[B" (.ref tb)) (Fc : Fld Z h0 a "java/lang/AbstractStringBuilder" "coder" "B" (.int (0 : Int32))) (Fn : Fld Z h0 a "java/lang/AbstractStringBuilder" "count" "I" (.int (Int32.ofNat (List.length cs)))) (At : Arv Z h0 tb kb .byte (Int32.ofNat cp) ((List.map (fun c => c.toInt8.toInt32) cs).map Value.int) (.int (0 : Int32))) (ga : n0 ≤ a) (gt : n0 ≤ tb) (Ss : StrP Z h0 sa ds) (hcs : List.length cs ≤ cp) (hle : List.length cs + List.length ds ≤ cp) (hcp : cp ≤ 1000) :
    MetFree l my18 (head1 (Jvm.Cond.code my18 jdk_67_method_7_code 2 (some (.object "java/lang/StringBuilder")) :: ws) ({ frames := 4, cells := 0, slots := 0, locals := 103 } : Room)) (fun aa U => aa = #[(.ref a), (.ref sa)] ∧ Z.Warmed39 U.vm ∧ U.heap = h0) (fun _ _ _ _ _ => True) (fun _ U o U' => ∃ v L, o = .returned v ∧ Q_rmbn Z a sa tb kb cp cs ds G1 h0 n0 v U'.heap L ∧ FrameEnd U o U' L ({ frames := 4, cells := 0, slots := 0, locals := 103 } : Room).cells ({ frames := 4, cells := 0, slots := 0, locals := 103 } : Room).slots) := by
  refine MetFree.of_bodySF (plainFor_of_name pn5) hisR ?_
  intro p e s m args below meth c s₁ Bd hml0 hP hK
  obtain ⟨rfl, hZ, hh⟩ := hP
  have hx := Bd.exec
  have hby := Bd.bytes
  have B := fun {pc : Nat} {r} (h : decode jdk_67_method_7_code pc = r) => hb hby h
  have hml : c.maxLocals = 2 := hml0
  have hown : s.vm.findClass "java/lang/StringBuilder" = some m.cls := findClass_of_methodNamed Bd.named
  have hnm := (name_of_methodNamed Bd.named Bd.method).1
  have X0 : Stand p l e ({ frames := 4, cells := 0, slots := 0, locals := 103 } : Room) s m #[(.ref a), (.ref sa)] below meth c s₁ [] 0 0 := Stand.of_body Bd
  have e0 : s₁.heap = h0 := by rw [← hh, Bd.state]; rfl
  have N0 := Fr.nil n0
  have K0 : Keep h0 h0 [a, tb] := Keep.refl _ _
  have pre0 : ∀ tgt, Steps p.tables e below (s₁.setTop (mkF m 0 #[.val (.ref a), .val (.ref sa)] [])) tgt → Steps p.tables e below (s₁.setTop (entryFrame m #[(.ref a), (.ref sa)] 2)) tgt := fun tgt kgo => castTop (ef_rmbn m a sa) kgo
  obtain ⟨sED, sCD, spD, slD, tD, skD, sVD, sAD⟩ := id Ss
  have nea : a ≠ tb := Exa.neArv Ea At (ow56 hw)
  have nes : a ≠ sa := Exa.ne Ea sED (by decide)
  have net : a ≠ tD := Exa.neArv Ea sAD (ow56 hw)
  have nst : sa ≠ tb := Exa.neArv sED At (ow13 hw)
  obtain ⟨_, _, ⟨T1, L1, k1, n1⟩, -, X1, ⟨Lc1, hQ1, l1, y1, z1⟩, st1⟩ := superBack X0 hx hZ (y := my17) hown (ow81 hw) (own_same (ow82 hw) (ow92 hw) rfl (by decide)) (ow82 hw) (ow83 hw) (by decide) (backOf (W := 0) (rman l Z a0 hw [] a sa tb kb cp cs ds G1 h0 n0 O0 O2 P5 Ea Fv Fc Fn At ga gt ⟨sED, sCD, spD, slD, tD, skD, sVD, sAD⟩ hcs hle hcp) hZ (ow85 hw) (ow65 hw) (by decide) (by decide)) e0 (Ins.self Ea) (g := (mkF m 2 #[(VR a), (VR sa)] [(.ref sa), (.ref a)])) rfl (by rw [hml]; rfl) (ow85 hw) (argsL := [(.ref sa)]) (rest := []) (lenOf pd12 rfl) rfl (w0 rfl rfl) (B d17_2) (fun _ _ => ⟨rfl, e0, (by decide : 0 + 0 ≤ _), (by decide : 0 + 0 ≤ _)⟩)
  dsimp only [Pt.U, Pt.locs, Pt.cells, Pt.slots] at X1 l1 y1 z1 st1 hQ1
  rw [l1, y1, z1] at X1
  obtain ⟨rfl, Nq1, kp1, qr1⟩ := hQ1
  have N2 := Fr.app N0 Nq1
  have Ol3 := O0.keep kp1 (allS ga (allS gt all0))
  have K3 := K0.trans kp1 (allS (Or.inl (List.mem_of_getElem? (i := 0) rfl)) (allS (Or.inl (List.mem_of_getElem? (i := 1) rfl)) all0))
  obtain ⟨fs, hretL, hrun, hended, hW, hsame⟩ := X1.leave (v := some (.ref a)) (fun h => by rw [Bd.returns] at h; cases h)
  refine ⟨_, _, pre0 _ ?_, hrun, hended, _, _, rfl, ?_, ⟨_, rfl⟩, hW, hsame.mono (by decide) (by decide)⟩
  · refine XS.aloadN X0.here hx rfl (B d17_0) rfl rfl ?_
    refine XS.aloadN X0.here hx rfl (B d17_1) rfl rfl ?_
    refine st1.trans ?_
    show GO p e below T1 (mkF m 5 #[(VR a), (VR sa)] [(.ref a)]) _
    refine XS.pop X1.here hx rfl (B d17_5) rfl rfl ?_
    refine XS.aloadN X1.here hx rfl (B d17_6) rfl rfl ?_
    exact retOut X1 hx Bd.returns rfl (Or.inr (Or.inr (Or.inr (Or.inr ⟨rfl, rfl, rfl⟩)))) (B d17_7) hretL
  · show Q_rmbn Z a sa tb kb cp cs ds G1 h0 n0 _ T1.heap _
    exact ⟨rfl, N2, K3, qr1⟩
def Q_rmag (Z : State) (a : Addr) (sa : Addr) (tb : Addr) (kb : ClassId) (cp : Nat) (cs : List Int32) (ds : List Int32) (G1 : Int32) (h0 : Heap) (n0 : Nat) (v : Option Value) (h : Heap) (L : List Loc) : Prop := ∃ (tn : Addr) (kn : ClassId), v = some (.ref a) ∧ Fr n0 L ∧ Keep h0 h [a] ∧ n0 ≤ tn ∧ h0.size ≤ tn ∧ Fld Z h a "java/lang/AbstractStringBuilder" "value" "[B" (.ref tn) ∧ Fld Z h a "java/lang/AbstractStringBuilder" "coder" "B" (.int (0 : Int32)) ∧ Fld Z h a "java/lang/AbstractStringBuilder" "count" "I" (.int (Int32.ofNat (List.length (cs ++ ds)))) ∧ Arv Z h tn kn .byte (Int32.ofNat (cp + max ((List.length cs + List.length ds) - cp) (cp + 2))) ((List.map (fun c => c.toInt8.toInt32) (cs ++ ds)).map Value.int) (.int (0 : Int32))
theorem ef_rmag (m : MethodId) (a : Addr) (sa : Addr) : entryFrame m #[(.ref a), (.ref sa)] 3 = mkF m 0 #[.val (.ref a), .val (.ref sa), .unset] [] := by first | (simp [entryFrame, mkF, argsToLocals, Value.category]; done) | rfl
set_option maxRecDepth 65536 in
set_option maxHeartbeats 40000000 in
theorem rmag (l : Launch) (Z : State) (a0 : Array Value) (hw : HW a0 Z) (ws : List Jvm.Cond) (a : Addr) (sa : Addr) (tb : Addr) (kb : ClassId) (cp : Nat) (cs : List Int32) (ds : List Int32) (G1 : Int32) (h0 : Heap) (n0 : Nat) (O0 : Old Z n0 h0) (O2 : Sta Z Z.heap "java/lang/String" "COMPACT_STRINGS" "Z" (.int G1)) (P5 : ¬ (G1 = (0 : Int32))) (Ea : Exa Z h0 a "java/lang/StringBuilder") (Fv : Fld Z h0 a "java/lang/AbstractStringBuilder" "value" "[B" (.ref tb)) (Fc : Fld Z h0 a "java/lang/AbstractStringBuilder" "coder" "B" (.int (0 : Int32))) (Fn : Fld Z h0 a "java/lang/AbstractStringBuilder" "count" "I" (.int (Int32.ofNat (List.length cs)))) (At : Arv Z h0 tb kb .byte (Int32.ofNat cp) ((List.map (fun c => c.toInt8.toInt32) cs).map Value.int) (.int (0 : Int32))) (ga : n0 ≤ a) (gt : n0 ≤ tb) (Ss : StrP Z h0 sa ds) (hcs : List.length cs ≤ cp) (hgr : cp < List.length cs + List.length ds) (hm : List.length cs + List.length ds ≤ 100) (hcp : cp ≤ 100) :
    MetFree l my17 (head1 (Jvm.Cond.code my17 jdk_68_method_22_code 3 (some (.object "java/lang/AbstractStringBuilder")) :: ws) ({ frames := 4, cells := 1, slots := 300, locals := 89 } : Room)) (fun aa U => aa = #[(.ref a), (.ref sa)] ∧ Z.Warmed39 U.vm ∧ U.heap = h0) (fun _ _ _ _ _ => True) (fun _ U o U' => ∃ v L, o = .returned v ∧ Q_rmag Z a sa tb kb cp cs ds G1 h0 n0 v U'.heap L ∧ FrameEnd U o U' L ({ frames := 4, cells := 1, slots := 300, locals := 89 } : Room).cells ({ frames := 4, cells := 1, slots := 300, locals := 89 } : Room).slots) := by
  refine MetFree.of_bodySF (plainFor_of_name pn4) hisR ?_
  intro p e s m args below meth c s₁ Bd hml0 hP hK
  obtain ⟨rfl, hZ, hh⟩ := hP
  have hx := Bd.exec
  have hby := Bd.bytes
  have B := fun {pc : Nat} {r} (h : decode jdk_68_method_22_code pc = r) => hb hby h
  have hml : c.maxLocals = 3 := hml0
  have hown : s.vm.findClass "java/lang/AbstractStringBuilder" = some m.cls := findClass_of_methodNamed Bd.named
  have hnm := (name_of_methodNamed Bd.named Bd.method).1
  have X0 : Stand p l e ({ frames := 4, cells := 1, slots := 300, locals := 89 } : Room) s m #[(.ref a), (.ref sa)] below meth c s₁ [] 0 0 := Stand.of_body Bd
  have e0 : s₁.heap = h0 := by rw [← hh, Bd.state]; rfl
  have N0 := Fr.nil n0
  have K0 : Keep h0 h0 [a] := Keep.refl _ _
  have pre0 : ∀ tgt, Steps p.tables e below (s₁.setTop (mkF m 0 #[.val (.ref a), .val (.ref sa), .unset] [])) tgt → Steps p.tables e below (s₁.setTop (entryFrame m #[(.ref a), (.ref sa)] 3)) tgt := fun tgt kgo => castTop (ef_rmag m a sa) kgo
  obtain ⟨sED, sCD, spD, slD, tD, skD, sVD, sAD⟩ := id Ss
  have nea : a ≠ tb := Exa.neArv Ea At (ow56 hw)
  have nes : a ≠ sa := Exa.ne Ea sED (by decide)
  have net : a ≠ tD := Exa.neArv Ea sAD (ow56 hw)
  have nst : sa ≠ tb := Exa.neArv sED At (ow13 hw)
  obtain ⟨cq1, kq1, q1a, q1b, q1c⟩ := isOf hZ e0 sED
  obtain ⟨_, _, ⟨T1, L1, k1, n1⟩, -, X1, ⟨Lc1, hQ1, l1, y1, z1⟩, st1⟩ := X0.virtualBack hx (y := my16) (z := my16) hown (mvT hZ (ow86 hw)) (mvT hZ (ow46 hw)) (notFace_of_selects (args := #[]) (mvT hZ (ow48 hw))) (mvT hZ (ow48 hw)) (mvT hZ (ow47 hw)) (by decide) (StrChars.Road.lenW (W := 0) hZ (own_wlen hw) (kI := 4) (ow13 hw) (cs := ds) sED sVD sCD sAD (StrChars.Road.codOf rfl (fun c hc => (spD c hc).2)) (own_up _ spD) (O2.ext O0.2) P5 slD (by decide) (by decide)) q1a q1c (g := (mkF m 10 #[(VR a), (VR sa), .unset] [(.ref sa)])) rfl (by rw [hml]; rfl) (Steps.refl _) (argsL := []) (rest := []) (lenOf pd9 rfl) rfl (w0 rfl rfl) (B d16_10) (fun _ _ => ⟨rfl, e0, (by decide : 0 + 0 ≤ _), (by decide : 0 + 0 ≤ _)⟩)
  dsimp only [Pt.U, Pt.locs, Pt.cells, Pt.slots] at X1 l1 y1 z1 st1 hQ1
  rw [l1, y1, z1] at X1
  obtain ⟨rfl, hL1, eq1⟩ := hQ1
  have Nq1 := own_frn hL1 n0
  have N2 := Fr.app N0 Nq1
  obtain ⟨T3, X3, e3, st3⟩ := getF X1 hx hZ hown (host := "") (Or.inl (ow87 hw)) Via.refl eq1 Fn (g := (mkF m 16 #[(VR a), (VR sa), (VI (Int32.ofNat (List.length ds)))] [(.ref a), (.ref a)])) rfl rfl (B d16_16)
  obtain ⟨cq4, kq4, q4a, q4b, q4c⟩ := isOf hZ e3 Ea
  obtain ⟨_, _, ⟨T4, L4, k4, n4⟩, -, X4, ⟨Lc4, hQ4, l4, y4, z4⟩, st4⟩ := X3.virtualBack hx (y := my11) (z := my11) hown (mvT hZ (ow89 hw)) (mvT hZ (own_decl (ow90 hw) (ow93 hw))) (notFace_of_selects (args := #[]) (mvT hZ (ow92 hw))) (mvT hZ (ow92 hw)) (mvT hZ (ow90 hw)) (by decide) (backOf (W := 0) (rmeg l Z a0 hw [] a ((Int32.ofNat (List.length cs)) + (Int32.ofNat (List.length ds))) tb kb ((List.map (fun c => c.toInt8.toInt32) cs).map Value.int) cp (List.length cs + List.length ds) (Int32.ofNat (List.length cs)) h0 n0 O0 Fv Fc At Ea Fn ga (on_add _ _) hgr hm hcp (by rw [own_bl]; exact hcs)) hZ (ow93 hw) (ow65 hw) (by decide) (by decide)) q4a q4c (g := (mkF m 21 #[(VR a), (VR sa), (VI (Int32.ofNat (List.length ds)))] [(.int ((Int32.ofNat (List.length cs)) + (Int32.ofNat (List.length ds)))), (.ref a)])) rfl (by rw [hml]; rfl) (Steps.refl _) (argsL := [(.int ((Int32.ofNat (List.length cs)) + (Int32.ofNat (List.length ds))))]) (rest := []) (lenOf pd10 rfl) rfl (w0 rfl rfl) (B d16_21) (fun _ _ => ⟨rfl, e3, (by decide : 0 + 1 ≤ _), (by decide : 0 + 300 ≤ _)⟩)
  dsimp only [Pt.U, Pt.locs, Pt.cells, Pt.slots] at X4 l4 y4 z4 st4 hQ4
  rw [l4, y4, z4] at X4
  obtain ⟨tn4, kn4, rfl, Nq4, kp4, gn4, gz4, fv4, fc4, fn4, na4⟩ := hQ4
  have N5 := Fr.app N2 Nq4
  have Ol6 := O0.keep kp4 (allS ga all0)
  have K6 := K0.trans kp4 (allS (Or.inl (List.mem_of_getElem? (i := 0) rfl)) all0)
  have gne4_a : a ≠ tn4 := Nat.ne_of_lt (Nat.lt_of_lt_of_le Ea.lt gz4)
  have gne4_tb : tb ≠ tn4 := Nat.ne_of_lt (Nat.lt_of_lt_of_le At.lt gz4)
  have gne4_sa : sa ≠ tn4 := Nat.ne_of_lt (Nat.lt_of_lt_of_le sED.lt gz4)
  have gne4_tD : tD ≠ tn4 := Nat.ne_of_lt (Nat.lt_of_lt_of_le sAD.lt gz4)
  obtain ⟨T7, X7, e7, st7⟩ := getF X4 hx hZ hown (host := "") (Or.inl (ow87 hw)) Via.refl rfl fn4 (g := (mkF m 26 #[(VR a), (VR sa), (VI (Int32.ofNat (List.length ds)))] [(.ref a), (.ref a)])) rfl rfl (B d16_26)
  have f8 := (Ea.keep kp4)
  have f9 := (sED.keep kp4)
  have f10 := (sCD.keep kp4 (ninS (Ne.symm nes) nin0))
  have f11 := (sVD.keep kp4 (ninS (Ne.symm nes) nin0))
  have f12 := (sAD.keep kp4 (ninS (Ne.symm net) nin0))
  obtain ⟨cq13, kq13, q13a, q13b, q13c⟩ := isOf hZ e7 f8
  obtain ⟨_, _, ⟨T13, L13, k13, n13⟩, -, X13, ⟨Lc13, hQ13, l13, y13, z13⟩, st13⟩ := X7.virtualBack hx (y := my15) (z := my15) hown (mvT hZ (ow94 hw)) (mvT hZ (own_decl (ow95 hw) (ow98 hw))) (notFace_of_selects (args := #[]) (mvT hZ (ow97 hw))) (mvT hZ (ow97 hw)) (mvT hZ (ow95 hw)) (by decide) (backOf (W := 0) (rmps l Z a0 hw [] a (Int32.ofNat (List.length cs)) sa tn4 tD skD ds kn4 ((List.map (fun c => c.toInt8.toInt32) cs).map Value.int) (cp + max ((List.length cs + List.length ds) - cp) (cp + 2)) G1 T4.heap n0 Ol6 O2 P5 f8 fv4 fc4 f9 f10 f11 f12 na4 (by rw [own_bl]) (by rw [own_bl]; omega) (by omega) gn4) hZ (ow98 hw) (ow65 hw) (by decide) (by decide)) q13a q13c (g := (mkF m 30 #[(VR a), (VR sa), (VI (Int32.ofNat (List.length ds)))] [(.ref sa), (.int (Int32.ofNat (List.length cs))), (.ref a)])) rfl (by rw [hml]; rfl) (Steps.refl _) (argsL := [(.int (Int32.ofNat (List.length cs))), (.ref sa)]) (rest := []) (lenOf pd11 rfl) rfl (w0 rfl rfl) (B d16_30) (fun _ _ => ⟨rfl, e7, (by decide : 1 + 0 ≤ _), (by decide : 300 + 0 ≤ _)⟩)
  dsimp only [Pt.U, Pt.locs, Pt.cells, Pt.slots] at X13 l13 y13 z13 st13 hQ13
  rw [l13, y13, z13] at X13
  obtain ⟨rfl, Nq13, kp13, nA13⟩ := hQ13
  have N14 := Fr.app N5 Nq13
  have Ol15 := Ol6.keep kp13 (allS gn4 all0)
  have K15 := K6.trans kp13 (allS (Or.inr (Nat.le_trans K0.1 gz4)) all0)
  have f16 := (fn4.keep kp13 (ninS gne4_a nin0))
  obtain ⟨T17, X17, e17, st17⟩ := getF X13 hx hZ hown (host := "") (Or.inl (ow87 hw)) Via.refl rfl f16 (g := (mkF m 35 #[(VR a), (VR sa), (VI (Int32.ofNat (List.length ds)))] [(.ref a), (.ref a)])) rfl rfl (B d16_35)
  have f18 := (f8.keep kp13)
  obtain ⟨T19, h19, X19, e19, W19, st19⟩ := putF X17 hx hZ hown (host := "") (Or.inl (ow87 hw)) Via.refl e17 f16 f18 (Or.inl (ow88 hw)) (ow56 hw) (ty := .int) (by decide) rfl rfl (g := (mkF m 40 #[(VR a), (VR sa), (VI (Int32.ofNat (List.length ds)))] [(.int ((Int32.ofNat (List.length cs)) + (Int32.ofNat (List.length ds)))), (.ref a)])) rfl rfl (B d16_40)
  have Fw19 := f16.same W19
  have N20 := Fr.snoc X19 N14 ga
  have Ol20 := Ol15.wr W19 ga
  have K20 := K15.wr W19 (Or.inl (List.mem_of_getElem? (i := 0) rfl))
  have f21 := ((fv4.keep kp13 (ninS gne4_a nin0)).other W19 (Or.inr (slot_ne (Or.inl (ow70 hw)) (Or.inl (ow88 hw)) (by decide) (t := (.array .byte)) (t' := .int) (by decide) (by decide))))
  have f22 := ((fc4.keep kp13 (ninS gne4_a nin0)).other W19 (Or.inr (slot_ne (Or.inl (ow72 hw)) (Or.inl (ow88 hw)) (by decide) (t := .byte) (t' := .int) (by decide) (by decide))))
  have f23 := (nA13.other W19 (Ne.symm gne4_a))
  obtain ⟨fs, hretL, hrun, hended, hW, hsame⟩ := X19.leave (v := some (.ref a)) (fun h => by rw [Bd.returns] at h; cases h)
  refine ⟨_, _, pre0 _ ?_, hrun, hended, _, _, rfl, ?_, ⟨_, rfl⟩, hW, hsame.mono (by decide) (by decide)⟩
  · refine XS.aloadN X0.here hx rfl (B d16_0) rfl rfl ?_
    refine XS.ifnonnullYes X0.here hx rfl (pc0 := 1) (pc' := 9) rfl (B d16_1) rfl (by decide) (by decide) ?_
    show GO p e below s₁ (mkF m 9 #[(VR a), (VR sa), .unset] []) _
    refine XS.aloadN X0.here hx rfl (B d16_9) rfl rfl ?_
    refine st1.trans ?_
    show GO p e below T1 (mkF m 13 #[(VR a), (VR sa), .unset] [(.int (Int32.ofNat (List.length ds)))]) _
    refine XS.istoreN X1.here hx rfl (B d16_13) rfl (l' := #[.val (.ref a), .val (.ref sa), .val (.int (Int32.ofNat (List.length ds)))]) rfl ?_
    refine XS.aloadN X1.here hx rfl (B d16_14) rfl rfl ?_
    refine XS.aloadN X1.here hx rfl (B d16_15) rfl rfl ?_
    refine st3 _ ?_
    show GO p e below T3 (mkF m 19 #[(VR a), (VR sa), (VI (Int32.ofNat (List.length ds)))] [(.int (Int32.ofNat (List.length cs))), (.ref a)]) _
    refine XS.iloadN X3.here hx rfl (B d16_19) rfl ?_
    refine XS.iadd X3.here hx rfl (B d16_20) rfl ?_
    refine st4.trans ?_
    show GO p e below T4 (mkF m 24 #[(VR a), (VR sa), (VI (Int32.ofNat (List.length ds)))] []) _
    refine XS.aloadN X4.here hx rfl (B d16_24) rfl rfl ?_
    refine XS.aloadN X4.here hx rfl (B d16_25) rfl rfl ?_
    refine st7 _ ?_
    show GO p e below T7 (mkF m 29 #[(VR a), (VR sa), (VI (Int32.ofNat (List.length ds)))] [(.int (Int32.ofNat (List.length cs))), (.ref a)]) _
    refine XS.aloadN X7.here hx rfl (B d16_29) rfl rfl ?_
    refine st13.trans ?_
    show GO p e below T13 (mkF m 33 #[(VR a), (VR sa), (VI (Int32.ofNat (List.length ds)))] []) _
    refine XS.aloadN X13.here hx rfl (B d16_33) rfl rfl ?_
    refine XS.dup X13.here hx rfl (B d16_34) rfl rfl ?_
    refine st17 _ ?_
    show GO p e below T17 (mkF m 38 #[(VR a), (VR sa), (VI (Int32.ofNat (List.length ds)))] [(.int (Int32.ofNat (List.length cs))), (.ref a)]) _
    refine XS.iloadN X17.here hx rfl (B d16_38) rfl ?_
    refine XS.iadd X17.here hx rfl (B d16_39) rfl ?_
    refine st19 _ ?_
    show GO p e below T19 (mkF m 43 #[(VR a), (VR sa), (VI (Int32.ofNat (List.length ds)))] []) _
    refine XS.aloadN X19.here hx rfl (B d16_43) rfl rfl ?_
    exact retOut X19 hx Bd.returns rfl (Or.inr (Or.inr (Or.inr (Or.inr ⟨rfl, rfl, rfl⟩)))) (B d16_44) hretL
  · show Q_rmag Z a sa tb kb cp cs ds G1 h0 n0 _ T19.heap _
    rw [e19]
    exact ⟨_, _, rfl, N20, K20, gn4, (Nat.le_trans K0.1 gz4), f21, f22, (by have q := Fw19; rw [on_add, ← List.length_append] at q; exact q), (by have q := f23; rw [own_ba] at q; exact q)⟩
def Q_rmbg (Z : State) (a : Addr) (sa : Addr) (tb : Addr) (kb : ClassId) (cp : Nat) (cs : List Int32) (ds : List Int32) (G1 : Int32) (h0 : Heap) (n0 : Nat) (v : Option Value) (h : Heap) (L : List Loc) : Prop := ∃ (tn : Addr) (kn : ClassId), v = some (.ref a) ∧ Fr n0 L ∧ Keep h0 h [a] ∧ n0 ≤ tn ∧ h0.size ≤ tn ∧ Fld Z h a "java/lang/AbstractStringBuilder" "value" "[B" (.ref tn) ∧ Fld Z h a "java/lang/AbstractStringBuilder" "coder" "B" (.int (0 : Int32)) ∧ Fld Z h a "java/lang/AbstractStringBuilder" "count" "I" (.int (Int32.ofNat (List.length (cs ++ ds)))) ∧ Arv Z h tn kn .byte (Int32.ofNat (cp + max ((List.length cs + List.length ds) - cp) (cp + 2))) ((List.map (fun c => c.toInt8.toInt32) (cs ++ ds)).map Value.int) (.int (0 : Int32))
theorem ef_rmbg (m : MethodId) (a : Addr) (sa : Addr) : entryFrame m #[(.ref a), (.ref sa)] 2 = mkF m 0 #[.val (.ref a), .val (.ref sa)] [] := by first | (simp [entryFrame, mkF, argsToLocals, Value.category]; done) | rfl
set_option maxRecDepth 65536 in
set_option maxHeartbeats 40000000 in
theorem rmbg (l : Launch) (Z : State) (a0 : Array Value) (hw : HW a0 Z) (ws : List Jvm.Cond) (a : Addr) (sa : Addr) (tb : Addr) (kb : ClassId) (cp : Nat) (cs : List Int32) (ds : List Int32) (G1 : Int32) (h0 : Heap) (n0 : Nat) (O0 : Old Z n0 h0) (O2 : Sta Z Z.heap "java/lang/String" "COMPACT_STRINGS" "Z" (.int G1)) (P5 : ¬ (G1 = (0 : Int32))) (Ea : Exa Z h0 a "java/lang/StringBuilder") (Fv : Fld Z h0 a "java/lang/AbstractStringBuilder" "value" "[B" (.ref tb)) (Fc : Fld Z h0 a "java/lang/AbstractStringBuilder" "coder" "B" (.int (0 : Int32))) (Fn : Fld Z h0 a "java/lang/AbstractStringBuilder" "count" "I" (.int (Int32.ofNat (List.length cs)))) (At : Arv Z h0 tb kb .byte (Int32.ofNat cp) ((List.map (fun c => c.toInt8.toInt32) cs).map Value.int) (.int (0 : Int32))) (ga : n0 ≤ a) (gt : n0 ≤ tb) (Ss : StrP Z h0 sa ds) (hcs : List.length cs ≤ cp) (hgr : cp < List.length cs + List.length ds) (hm : List.length cs + List.length ds ≤ 100) (hcp : cp ≤ 100) :
    MetFree l my18 (head1 (Jvm.Cond.code my18 jdk_67_method_7_code 2 (some (.object "java/lang/StringBuilder")) :: ws) ({ frames := 5, cells := 1, slots := 300, locals := 103 } : Room)) (fun aa U => aa = #[(.ref a), (.ref sa)] ∧ Z.Warmed39 U.vm ∧ U.heap = h0) (fun _ _ _ _ _ => True) (fun _ U o U' => ∃ v L, o = .returned v ∧ Q_rmbg Z a sa tb kb cp cs ds G1 h0 n0 v U'.heap L ∧ FrameEnd U o U' L ({ frames := 5, cells := 1, slots := 300, locals := 103 } : Room).cells ({ frames := 5, cells := 1, slots := 300, locals := 103 } : Room).slots) := by
  refine MetFree.of_bodySF (plainFor_of_name pn5) hisR ?_
  intro p e s m args below meth c s₁ Bd hml0 hP hK
  obtain ⟨rfl, hZ, hh⟩ := hP
  have hx := Bd.exec
  have hby := Bd.bytes
  have B := fun {pc : Nat} {r} (h : decode jdk_67_method_7_code pc = r) => hb hby h
  have hml : c.maxLocals = 2 := hml0
  have hown : s.vm.findClass "java/lang/StringBuilder" = some m.cls := findClass_of_methodNamed Bd.named
  have hnm := (name_of_methodNamed Bd.named Bd.method).1
  have X0 : Stand p l e ({ frames := 5, cells := 1, slots := 300, locals := 103 } : Room) s m #[(.ref a), (.ref sa)] below meth c s₁ [] 0 0 := Stand.of_body Bd
  have e0 : s₁.heap = h0 := by rw [← hh, Bd.state]; rfl
  have N0 := Fr.nil n0
  have K0 : Keep h0 h0 [a] := Keep.refl _ _
  have pre0 : ∀ tgt, Steps p.tables e below (s₁.setTop (mkF m 0 #[.val (.ref a), .val (.ref sa)] [])) tgt → Steps p.tables e below (s₁.setTop (entryFrame m #[(.ref a), (.ref sa)] 2)) tgt := fun tgt kgo => castTop (ef_rmbg m a sa) kgo
  obtain ⟨sED, sCD, spD, slD, tD, skD, sVD, sAD⟩ := id Ss
  have nea : a ≠ tb := Exa.neArv Ea At (ow56 hw)
  have nes : a ≠ sa := Exa.ne Ea sED (by decide)
  have net : a ≠ tD := Exa.neArv Ea sAD (ow56 hw)
  have nst : sa ≠ tb := Exa.neArv sED At (ow13 hw)
  obtain ⟨_, _, ⟨T1, L1, k1, n1⟩, -, X1, ⟨Lc1, hQ1, l1, y1, z1⟩, st1⟩ := superBack X0 hx hZ (y := my17) hown (ow81 hw) (own_same (ow82 hw) (ow92 hw) rfl (by decide)) (ow82 hw) (ow83 hw) (by decide) (backOf (W := 0) (rmag l Z a0 hw [] a sa tb kb cp cs ds G1 h0 n0 O0 O2 P5 Ea Fv Fc Fn At ga gt ⟨sED, sCD, spD, slD, tD, skD, sVD, sAD⟩ hcs hgr hm hcp) hZ (ow85 hw) (ow65 hw) (by decide) (by decide)) e0 (Ins.self Ea) (g := (mkF m 2 #[(VR a), (VR sa)] [(.ref sa), (.ref a)])) rfl (by rw [hml]; rfl) (ow85 hw) (argsL := [(.ref sa)]) (rest := []) (lenOf pd12 rfl) rfl (w0 rfl rfl) (B d17_2) (fun _ _ => ⟨rfl, e0, (by decide : 0 + 1 ≤ _), (by decide : 0 + 300 ≤ _)⟩)
  dsimp only [Pt.U, Pt.locs, Pt.cells, Pt.slots] at X1 l1 y1 z1 st1 hQ1
  rw [l1, y1, z1] at X1
  obtain ⟨tn1, kn1, rfl, Nq1, kp1, gn1, gz1, qr1⟩ := hQ1
  have N2 := Fr.app N0 Nq1
  have Ol3 := O0.keep kp1 (allS ga all0)
  have K3 := K0.trans kp1 (allS (Or.inl (List.mem_of_getElem? (i := 0) rfl)) all0)
  obtain ⟨fs, hretL, hrun, hended, hW, hsame⟩ := X1.leave (v := some (.ref a)) (fun h => by rw [Bd.returns] at h; cases h)
  refine ⟨_, _, pre0 _ ?_, hrun, hended, _, _, rfl, ?_, ⟨_, rfl⟩, hW, hsame.mono (by decide) (by decide)⟩
  · refine XS.aloadN X0.here hx rfl (B d17_0) rfl rfl ?_
    refine XS.aloadN X0.here hx rfl (B d17_1) rfl rfl ?_
    refine st1.trans ?_
    show GO p e below T1 (mkF m 5 #[(VR a), (VR sa)] [(.ref a)]) _
    refine XS.pop X1.here hx rfl (B d17_5) rfl rfl ?_
    refine XS.aloadN X1.here hx rfl (B d17_6) rfl rfl ?_
    exact retOut X1 hx Bd.returns rfl (Or.inr (Or.inr (Or.inr (Or.inr ⟨rfl, rfl, rfl⟩)))) (B d17_7) hretL
  · show Q_rmbg Z a sa tb kb cp cs ds G1 h0 n0 _ T1.heap _
    exact ⟨_, _, rfl, N2, K3, gn1, gz1, qr1⟩
theorem d18_0 : decode jdk_68_method_2_code 0 = .ok (.aload_n 0, 1) := by decide +kernel
theorem d18_1 : decode jdk_68_method_2_code 1 = .ok (.invokespecial 3, 3) := by decide +kernel
theorem d18_4 : decode jdk_68_method_2_code 4 = .ok (.getstatic 18, 3) := by decide +kernel
theorem d18_7 : decode jdk_68_method_2_code 7 = .ok (.ifCond .eq 18, 3) := by decide +kernel
theorem d18_10 : decode jdk_68_method_2_code 10 = .ok (.aload_n 0, 1) := by decide +kernel
theorem d18_11 : decode jdk_68_method_2_code 11 = .ok (.iload_n 1, 1) := by decide +kernel
theorem d18_12 : decode jdk_68_method_2_code 12 = .ok (.newarray .byte, 2) := by decide +kernel
theorem d18_14 : decode jdk_68_method_2_code 14 = .ok (.putfield 15, 3) := by decide +kernel
theorem d18_17 : decode jdk_68_method_2_code 17 = .ok (.aload_n 0, 1) := by decide +kernel
theorem d18_18 : decode jdk_68_method_2_code 18 = .ok (.iconst 0, 1) := by decide +kernel
theorem d18_19 : decode jdk_68_method_2_code 19 = .ok (.putfield 22, 3) := by decide +kernel
theorem d18_22 : decode jdk_68_method_2_code 22 = .ok (.goto 16, 3) := by decide +kernel
theorem d18_38 : decode jdk_68_method_2_code 38 = .ok (.return_, 1) := by decide +kernel
def Q_rmai (Z : State) (a : Addr) (G1 : Int32) (h0 : Heap) (n0 : Nat) (v : Option Value) (h : Heap) (L : List Loc) : Prop := ∃ (tb : Addr) (kb : ClassId), v = none ∧ Fr n0 L ∧ Keep h0 h [a] ∧ n0 ≤ tb ∧ h0.size ≤ tb ∧ Fld Z h a "java/lang/AbstractStringBuilder" "value" "[B" (.ref tb) ∧ Fld Z h a "java/lang/AbstractStringBuilder" "coder" "B" (.int (0 : Int32)) ∧ Fld Z h a "java/lang/AbstractStringBuilder" "count" "I" (.int (0 : Int32)) ∧ Arv Z h tb kb .byte (16 : Int32) [] (.int (0 : Int32))
theorem ef_rmai (m : MethodId) (a : Addr) : entryFrame m #[(.ref a), (.int (16 : Int32))] 2 = mkF m 0 #[.val (.ref a), .val (.int (16 : Int32))] [] := by first | (simp [entryFrame, mkF, argsToLocals, Value.category]; done) | rfl
set_option maxRecDepth 65536 in
set_option maxHeartbeats 40000000 in
theorem rmai (l : Launch) (Z : State) (a0 : Array Value) (hw : HW a0 Z) (ws : List Jvm.Cond) (a : Addr) (G1 : Int32) (h0 : Heap) (n0 : Nat) (O0 : Old Z n0 h0) (O2 : Sta Z Z.heap "java/lang/String" "COMPACT_STRINGS" "Z" (.int G1)) (P5 : ¬ (G1 = (0 : Int32))) (Ea : Exa Z h0 a "java/lang/StringBuilder") (Fv : Fld Z h0 a "java/lang/AbstractStringBuilder" "value" "[B" .null) (Fc : Fld Z h0 a "java/lang/AbstractStringBuilder" "coder" "B" (.int (0 : Int32))) (Fn : Fld Z h0 a "java/lang/AbstractStringBuilder" "count" "I" (.int (0 : Int32))) (ga : n0 ≤ a) :
    MetFree l my19 (head1 (Jvm.Cond.code my19 jdk_68_method_2_code 2 none :: ws) ({ frames := 1, cells := 1, slots := 16, locals := 12 } : Room)) (fun aa U => aa = #[(.ref a), (.int (16 : Int32))] ∧ Z.Warmed39 U.vm ∧ U.heap = h0) (fun _ _ _ _ _ => True) (fun _ U o U' => ∃ v L, o = .returned v ∧ Q_rmai Z a G1 h0 n0 v U'.heap L ∧ FrameEnd U o U' L ({ frames := 1, cells := 1, slots := 16, locals := 12 } : Room).cells ({ frames := 1, cells := 1, slots := 16, locals := 12 } : Room).slots) := by
  refine MetFree.of_bodySF (plainFor_of_name pn4) hisR ?_
  intro p e s m args below meth c s₁ Bd hml0 hP hK
  obtain ⟨rfl, hZ, hh⟩ := hP
  have hx := Bd.exec
  have hby := Bd.bytes
  have B := fun {pc : Nat} {r} (h : decode jdk_68_method_2_code pc = r) => hb hby h
  have hml : c.maxLocals = 2 := hml0
  have hown : s.vm.findClass "java/lang/AbstractStringBuilder" = some m.cls := findClass_of_methodNamed Bd.named
  have hnm := (name_of_methodNamed Bd.named Bd.method).1
  have X0 : Stand p l e ({ frames := 1, cells := 1, slots := 16, locals := 12 } : Room) s m #[(.ref a), (.int (16 : Int32))] below meth c s₁ [] 0 0 := Stand.of_body Bd
  have e0 : s₁.heap = h0 := by rw [← hh, Bd.state]; rfl
  have N0 := Fr.nil n0
  have K0 : Keep h0 h0 [a] := Keep.refl _ _
  have pre0 : ∀ tgt, Steps p.tables e below (s₁.setTop (mkF m 0 #[.val (.ref a), .val (.int (16 : Int32))] [])) tgt → Steps p.tables e below (s₁.setTop (entryFrame m #[(.ref a), (.int (16 : Int32))] 2)) tgt := fun tgt kgo => castTop (ef_rmai m a) kgo
  obtain ⟨T1, X1, e1, st1⟩ := initO X0 hx hZ hown (ow67 hw) (ow23 hw) (ow24 hw) e0 (g := (mkF m 1 #[(VR a), (VI 16)] [(.ref a)])) rfl (by rw [hml]; rfl) rfl (B d18_1) (by decide) (W := 0) (by show 2 * 0 + _ ≤ _; exact Nat.le_of_eq rfl) (by decide)
  obtain ⟨T2, X2, e2, st2⟩ := getS2 X1 hx hZ hown (host := "") (Or.inl (ow68 hw)) Via.refl e1 (O2.ext O0.2) (g := (mkF m 4 #[(VR a), (VI 16)] [])) rfl (B d18_4)
  obtain ⟨T3, h3, k3, X3, e3, E3, A3, st3⟩ := newP (aty := .byte) X2 hx hZ (ow30 hw) e2 (g := (mkF m 12 #[(VR a), (VI 16)] [(.int 16), (.ref a)])) rfl (B d18_12) rfl (by decide) (cap := 16) (by decide) (by decide) (by decide) (by decide)
  obtain ⟨b3, g3⟩ : ∃ z, z = h0.size := ⟨_, rfl⟩
  rw [← g3] at A3 st3
  have V3 : Arv Z h3 b3 k3 .byte (16 : Int32) (List.replicate 16 (.int (0 : Int32))) (.int (0 : Int32)) := (Arv.new A3 (by decide)).pad (pad_rep [] (.int (0 : Int32)) 16)
  have gn3 : n0 ≤ b3 := Nat.le_trans (own_sz O0) (Nat.le_of_eq g3.symm)
  have sz3 : h0.size ≤ b3 := Nat.le_trans K0.1 (Nat.le_of_eq g3.symm)
  have nea_3 : a ≠ b3 := Nat.ne_of_lt (Nat.lt_of_lt_of_le Ea.lt (Nat.le_of_eq g3.symm))
  have Ol4 := O0.ext E3
  have K4 := K0.ext E3
  have f5 := (Ea.ext E3)
  have f6 := (Fv.ext E3)
  obtain ⟨T7, h7, X7, e7, W7, st7⟩ := putF X3 hx hZ hown (host := "") (Or.inl (ow69 hw)) Via.refl e3 f6 f5 (Or.inl (ow70 hw)) (ow56 hw) (ty := (.array .byte)) (by decide) rfl rfl (g := (mkF m 14 #[(VR a), (VI 16)] [(.ref b3), (.ref a)])) rfl rfl (B d18_14)
  have Fw7 := f6.same W7
  have N8 := Fr.snoc X7 N0 ga
  have Ol8 := Ol4.wr W7 ga
  have K8 := K4.wr W7 (Or.inl (List.mem_of_getElem? (i := 0) rfl))
  have f9 := (f5.wr W7)
  have f10 := ((Fc.ext E3).other W7 (Or.inr (slot_ne (Or.inl (ow72 hw)) (Or.inl (ow70 hw)) (by decide) (t := .byte) (t' := (.array .byte)) (by decide) (by decide))))
  obtain ⟨T11, h11, X11, e11, W11, st11⟩ := putFN X7 hx hZ hown (ow71 hw) Via.refl e7 f10 f9 (Or.inl (ow72 hw)) (ow56 hw) (ty := .byte) (v' := (.int (nar .byte (0 : Int32)))) (by decide) rfl (fits_nar_byte _) (g := (mkF m 19 #[(VR a), (VI 16)] [(.int 0), (.ref a)])) rfl rfl (B d18_19)
  have Fw11 := f10.same W11
  have N12 := Fr.snoc X11 N8 ga
  have Ol12 := Ol8.wr W11 ga
  have K12 := K8.wr W11 (Or.inl (List.mem_of_getElem? (i := 0) rfl))
  have f13 := (Fw7.other W11 (Or.inr (slot_ne (Or.inl (ow70 hw)) (Or.inl (ow72 hw)) (by decide) (t := (.array .byte)) (t' := .byte) (by decide) (by decide))))
  have f14 := (((Fn.ext E3).other W7 (Or.inr (slot_ne (Or.inl (ow88 hw)) (Or.inl (ow70 hw)) (by decide) (t := .int) (t' := (.array .byte)) (by decide) (by decide)))).other W11 (Or.inr (slot_ne (Or.inl (ow88 hw)) (Or.inl (ow72 hw)) (by decide) (t := .int) (t' := .byte) (by decide) (by decide))))
  have f15 := ((V3.other W7 (Ne.symm nea_3)).other W11 (Ne.symm nea_3))
  obtain ⟨fs, hretL, hrun, hended, hW, hsame⟩ := X11.leave (v := none) (fun _ => rfl)
  refine ⟨_, _, pre0 _ ?_, hrun, hended, _, _, rfl, ?_, ⟨_, rfl⟩, hW, hsame.mono (by decide) (by decide)⟩
  · refine XS.aloadN X0.here hx rfl (B d18_0) rfl rfl ?_
    refine st1 _ ?_
    show GO p e below T1 (mkF m 4 #[(VR a), (VI 16)] []) _
    refine st2 _ ?_
    show GO p e below T2 (mkF m 7 #[(VR a), (VI 16)] [(.int G1)]) _
    refine XS.ifNo X2.here hx rfl (B d18_7) rfl ((if0 _ _).trans (feq P5).1) ?_
    show GO p e below T2 (mkF m 10 #[(VR a), (VI 16)] []) _
    refine XS.aloadN X2.here hx rfl (B d18_10) rfl rfl ?_
    refine XS.iloadN X2.here hx rfl (B d18_11) rfl ?_
    refine st3 _ ?_
    show GO p e below T3 (mkF m 14 #[(VR a), (VI 16)] [(.ref b3), (.ref a)]) _
    refine st7 _ ?_
    show GO p e below T7 (mkF m 17 #[(VR a), (VI 16)] []) _
    refine XS.aloadN X7.here hx rfl (B d18_17) rfl rfl ?_
    refine XS.iconst X7.here hx rfl (B d18_18) ?_
    refine st11 _ ?_
    show GO p e below T11 (mkF m 22 #[(VR a), (VI 16)] []) _
    refine XS.goto X11.here hx rfl (pc0 := 22) (pc' := 38) rfl (B d18_22) (by decide) (by decide) ?_
    exact X11.returnOut hx Bd.returns (B d18_38) hretL
  · show Q_rmai Z a G1 h0 n0 _ T11.heap _
    rw [e11]
    exact ⟨_, _, rfl, N12, K12, gn3, sz3, f13, Fw11, f14, f15.pad (fun i => (pad_rep [] _ 16 i).symm)⟩
theorem d19_0 : decode jdk_67_method_1_code 0 = .ok (.aload_n 0, 1) := by decide +kernel
theorem d19_1 : decode jdk_67_method_1_code 1 = .ok (.bipush 16, 2) := by decide +kernel
theorem d19_3 : decode jdk_67_method_1_code 3 = .ok (.invokespecial 1, 3) := by decide +kernel
theorem d19_6 : decode jdk_67_method_1_code 6 = .ok (.return_, 1) := by decide +kernel
def Q_rmsi (Z : State) (a : Addr) (G1 : Int32) (h0 : Heap) (n0 : Nat) (v : Option Value) (h : Heap) (L : List Loc) : Prop := ∃ (tb : Addr) (kb : ClassId), v = none ∧ Fr n0 L ∧ Keep h0 h [a] ∧ n0 ≤ tb ∧ h0.size ≤ tb ∧ Fld Z h a "java/lang/AbstractStringBuilder" "value" "[B" (.ref tb) ∧ Fld Z h a "java/lang/AbstractStringBuilder" "coder" "B" (.int (0 : Int32)) ∧ Fld Z h a "java/lang/AbstractStringBuilder" "count" "I" (.int (0 : Int32)) ∧ Arv Z h tb kb .byte (16 : Int32) [] (.int (0 : Int32))
theorem ef_rmsi (m : MethodId) (a : Addr) : entryFrame m #[(.ref a)] 1 = mkF m 0 #[.val (.ref a)] [] := by first | (simp [entryFrame, mkF, argsToLocals, Value.category]; done) | rfl
set_option maxRecDepth 65536 in
set_option maxHeartbeats 40000000 in
theorem rmsi (l : Launch) (Z : State) (a0 : Array Value) (hw : HW a0 Z) (ws : List Jvm.Cond) (a : Addr) (G1 : Int32) (h0 : Heap) (n0 : Nat) (O0 : Old Z n0 h0) (O2 : Sta Z Z.heap "java/lang/String" "COMPACT_STRINGS" "Z" (.int G1)) (P5 : ¬ (G1 = (0 : Int32))) (Ea : Exa Z h0 a "java/lang/StringBuilder") (Fv : Fld Z h0 a "java/lang/AbstractStringBuilder" "value" "[B" .null) (Fc : Fld Z h0 a "java/lang/AbstractStringBuilder" "coder" "B" (.int (0 : Int32))) (Fn : Fld Z h0 a "java/lang/AbstractStringBuilder" "count" "I" (.int (0 : Int32))) (ga : n0 ≤ a) :
    MetFree l my20 (head1 (Jvm.Cond.code my20 jdk_67_method_1_code 1 none :: ws) ({ frames := 2, cells := 1, slots := 16, locals := 25 } : Room)) (fun aa U => aa = #[(.ref a)] ∧ Z.Warmed39 U.vm ∧ U.heap = h0) (fun _ _ _ _ _ => True) (fun _ U o U' => ∃ v L, o = .returned v ∧ Q_rmsi Z a G1 h0 n0 v U'.heap L ∧ FrameEnd U o U' L ({ frames := 2, cells := 1, slots := 16, locals := 25 } : Room).cells ({ frames := 2, cells := 1, slots := 16, locals := 25 } : Room).slots) := by
  refine MetFree.of_bodySF (plainFor_of_name pn5) hisR ?_
  intro p e s m args below meth c s₁ Bd hml0 hP hK
  obtain ⟨rfl, hZ, hh⟩ := hP
  have hx := Bd.exec
  have hby := Bd.bytes
  have B := fun {pc : Nat} {r} (h : decode jdk_67_method_1_code pc = r) => hb hby h
  have hml : c.maxLocals = 1 := hml0
  have hown : s.vm.findClass "java/lang/StringBuilder" = some m.cls := findClass_of_methodNamed Bd.named
  have hnm := (name_of_methodNamed Bd.named Bd.method).1
  have X0 : Stand p l e ({ frames := 2, cells := 1, slots := 16, locals := 25 } : Room) s m #[(.ref a)] below meth c s₁ [] 0 0 := Stand.of_body Bd
  have e0 : s₁.heap = h0 := by rw [← hh, Bd.state]; rfl
  have N0 := Fr.nil n0
  have K0 : Keep h0 h0 [a] := Keep.refl _ _
  have pre0 : ∀ tgt, Steps p.tables e below (s₁.setTop (mkF m 0 #[.val (.ref a)] [])) tgt → Steps p.tables e below (s₁.setTop (entryFrame m #[(.ref a)] 1)) tgt := fun tgt kgo => castTop (ef_rmsi m a) kgo
  obtain ⟨_, _, ⟨T1, L1, k1, n1⟩, -, X1, ⟨Lc1, hQ1, l1, y1, z1⟩, st1⟩ := X0.specialBack hx (y := my19) rfl hown (mvT hZ (ow61 hw)) (mvT hZ (ow62 hw)) (mvT hZ (ow66 hw)) (by decide) (backOf (W := 0) (rmai l Z a0 hw [] a G1 h0 n0 O0 O2 P5 Ea Fv Fc Fn ga) hZ (ow66 hw) (ow65 hw) (by decide) (by decide)) (g := (mkF m 3 #[(VR a)] [(.int 16), (.ref a)])) rfl (by rw [hml]; rfl) (Steps.refl _) (a := a) (argsL := [(.int 16)]) (rest := []) (lenOf pd10 rfl) rfl (w0 rfl rfl) (B d19_3) (fun _ _ => ⟨rfl, e0, (by decide : 0 + 1 ≤ _), (by decide : 0 + 16 ≤ _)⟩)
  dsimp only [Pt.U, Pt.locs, Pt.cells, Pt.slots] at X1 l1 y1 z1 st1 hQ1
  rw [l1, y1, z1] at X1
  obtain ⟨tb1, kb1, rfl, Nq1, kp1, gn1, gz1, qr1⟩ := hQ1
  have N2 := Fr.app N0 Nq1
  have Ol3 := O0.keep kp1 (allS ga all0)
  have K3 := K0.trans kp1 (allS (Or.inl (List.mem_of_getElem? (i := 0) rfl)) all0)
  obtain ⟨fs, hretL, hrun, hended, hW, hsame⟩ := X1.leave (v := none) (fun _ => rfl)
  refine ⟨_, _, pre0 _ ?_, hrun, hended, _, _, rfl, ?_, ⟨_, rfl⟩, hW, hsame.mono (by decide) (by decide)⟩
  · refine XS.aloadN X0.here hx rfl (B d19_0) rfl rfl ?_
    refine XS.bipush X0.here hx rfl (B d19_1) ?_
    refine st1.trans ?_
    show GO p e below T1 (mkF m 6 #[(VR a)] []) _
    exact X1.returnOut hx Bd.returns (B d19_6) hretL
  · show Q_rmsi Z a G1 h0 n0 _ T1.heap _
    exact ⟨_, _, rfl, N2, K3, gn1, gz1, qr1⟩
theorem d20_0 : decode jdk_68_method_64_code 0 = .ok (.aload_n 0, 1) := by decide +kernel
theorem d20_1 : decode jdk_68_method_64_code 1 = .ok (.getfield 15, 3) := by decide +kernel
theorem d20_4 : decode jdk_68_method_64_code 4 = .ok (.areturn, 1) := by decide +kernel
def Q_rmgv (Z : State) (a : Addr) (tb : Addr) (h0 : Heap) (n0 : Nat) (v : Option Value) (h : Heap) (L : List Loc) : Prop := v = some (.ref tb) ∧ Fr n0 L ∧ h = h0
theorem ef_rmgv (m : MethodId) (a : Addr) : entryFrame m #[(.ref a)] 1 = mkF m 0 #[.val (.ref a)] [] := by first | (simp [entryFrame, mkF, argsToLocals, Value.category]; done) | rfl
set_option maxRecDepth 65536 in
set_option maxHeartbeats 40000000 in
theorem rmgv (l : Launch) (Z : State) (a0 : Array Value) (hw : HW a0 Z) (ws : List Jvm.Cond) (a : Addr) (tb : Addr) (h0 : Heap) (n0 : Nat) (O0 : Old Z n0 h0) (Fv : Fld Z h0 a "java/lang/AbstractStringBuilder" "value" "[B" (.ref tb)) :
    MetFree l my21 (head1 (Jvm.Cond.code my21 jdk_68_method_64_code 1 (some (.array .byte)) :: ws) ({ frames := 0, cells := 0, slots := 0, locals := 0 } : Room)) (fun aa U => aa = #[(.ref a)] ∧ Z.Warmed39 U.vm ∧ U.heap = h0) (fun _ _ _ _ _ => True) (fun _ U o U' => ∃ v L, o = .returned v ∧ Q_rmgv Z a tb h0 n0 v U'.heap L ∧ FrameEnd U o U' L ({ frames := 0, cells := 0, slots := 0, locals := 0 } : Room).cells ({ frames := 0, cells := 0, slots := 0, locals := 0 } : Room).slots) := by
  refine MetFree.of_bodySF (plainFor_of_name pn4) hisR ?_
  intro p e s m args below meth c s₁ Bd hml0 hP hK
  obtain ⟨rfl, hZ, hh⟩ := hP
  have hx := Bd.exec
  have hby := Bd.bytes
  have B := fun {pc : Nat} {r} (h : decode jdk_68_method_64_code pc = r) => hb hby h
  have hml : c.maxLocals = 1 := hml0
  have hown : s.vm.findClass "java/lang/AbstractStringBuilder" = some m.cls := findClass_of_methodNamed Bd.named
  have hnm := (name_of_methodNamed Bd.named Bd.method).1
  have X0 : Stand p l e ({ frames := 0, cells := 0, slots := 0, locals := 0 } : Room) s m #[(.ref a)] below meth c s₁ [] 0 0 := Stand.of_body Bd
  have e0 : s₁.heap = h0 := by rw [← hh, Bd.state]; rfl
  have N0 := Fr.nil n0
  have K0 : Keep h0 h0 [] := Keep.refl _ _
  have pre0 : ∀ tgt, Steps p.tables e below (s₁.setTop (mkF m 0 #[.val (.ref a)] [])) tgt → Steps p.tables e below (s₁.setTop (entryFrame m #[(.ref a)] 1)) tgt := fun tgt kgo => castTop (ef_rmgv m a) kgo
  obtain ⟨T1, X1, e1, st1⟩ := getF X0 hx hZ hown (host := "") (Or.inl (ow69 hw)) Via.refl e0 Fv (g := (mkF m 1 #[(VR a)] [(.ref a)])) rfl rfl (B d20_1)
  obtain ⟨fs, hretL, hrun, hended, hW, hsame⟩ := X1.leave (v := some (.ref tb)) (fun h => by rw [Bd.returns] at h; cases h)
  refine ⟨_, _, pre0 _ ?_, hrun, hended, _, _, rfl, ?_, ⟨_, rfl⟩, hW, hsame.mono (by decide) (by decide)⟩
  · refine XS.aloadN X0.here hx rfl (B d20_0) rfl rfl ?_
    refine st1 _ ?_
    show GO p e below T1 (mkF m 4 #[(VR a)] [(.ref tb)]) _
    exact retOut X1 hx Bd.returns rfl (Or.inr (Or.inr (Or.inr (Or.inr ⟨rfl, rfl, rfl⟩)))) (B d20_4) hretL
  · show Q_rmgv Z a tb h0 n0 _ T1.heap _
    rw [e1]
    exact ⟨rfl, N0, rfl⟩
theorem d21_0 : decode jdk_68_method_6_code 0 = .ok (.aload_n 0, 1) := by decide +kernel
theorem d21_1 : decode jdk_68_method_6_code 1 = .ok (.getfield 79, 3) := by decide +kernel
theorem d21_4 : decode jdk_68_method_6_code 4 = .ok (.ireturn, 1) := by decide +kernel
def Q_rmal (Z : State) (a : Addr) (cn : Int32) (h0 : Heap) (n0 : Nat) (v : Option Value) (h : Heap) (L : List Loc) : Prop := v = some (.int cn) ∧ Fr n0 L ∧ h = h0
theorem ef_rmal (m : MethodId) (a : Addr) : entryFrame m #[(.ref a)] 1 = mkF m 0 #[.val (.ref a)] [] := by first | (simp [entryFrame, mkF, argsToLocals, Value.category]; done) | rfl
set_option maxRecDepth 65536 in
set_option maxHeartbeats 40000000 in
theorem rmal (l : Launch) (Z : State) (a0 : Array Value) (hw : HW a0 Z) (ws : List Jvm.Cond) (a : Addr) (cn : Int32) (h0 : Heap) (n0 : Nat) (O0 : Old Z n0 h0) (Fn : Fld Z h0 a "java/lang/AbstractStringBuilder" "count" "I" (.int cn)) :
    MetFree l my22 (head1 (Jvm.Cond.code my22 jdk_68_method_6_code 1 (some .int) :: ws) ({ frames := 0, cells := 0, slots := 0, locals := 0 } : Room)) (fun aa U => aa = #[(.ref a)] ∧ Z.Warmed39 U.vm ∧ U.heap = h0) (fun _ _ _ _ _ => True) (fun _ U o U' => ∃ v L, o = .returned v ∧ Q_rmal Z a cn h0 n0 v U'.heap L ∧ FrameEnd U o U' L ({ frames := 0, cells := 0, slots := 0, locals := 0 } : Room).cells ({ frames := 0, cells := 0, slots := 0, locals := 0 } : Room).slots) := by
  refine MetFree.of_bodySF (plainFor_of_name pn4) hisR ?_
  intro p e s m args below meth c s₁ Bd hml0 hP hK
  obtain ⟨rfl, hZ, hh⟩ := hP
  have hx := Bd.exec
  have hby := Bd.bytes
  have B := fun {pc : Nat} {r} (h : decode jdk_68_method_6_code pc = r) => hb hby h
  have hml : c.maxLocals = 1 := hml0
  have hown : s.vm.findClass "java/lang/AbstractStringBuilder" = some m.cls := findClass_of_methodNamed Bd.named
  have hnm := (name_of_methodNamed Bd.named Bd.method).1
  have X0 : Stand p l e ({ frames := 0, cells := 0, slots := 0, locals := 0 } : Room) s m #[(.ref a)] below meth c s₁ [] 0 0 := Stand.of_body Bd
  have e0 : s₁.heap = h0 := by rw [← hh, Bd.state]; rfl
  have N0 := Fr.nil n0
  have K0 : Keep h0 h0 [] := Keep.refl _ _
  have pre0 : ∀ tgt, Steps p.tables e below (s₁.setTop (mkF m 0 #[.val (.ref a)] [])) tgt → Steps p.tables e below (s₁.setTop (entryFrame m #[(.ref a)] 1)) tgt := fun tgt kgo => castTop (ef_rmal m a) kgo
  obtain ⟨T1, X1, e1, st1⟩ := getF X0 hx hZ hown (host := "") (Or.inl (ow87 hw)) Via.refl e0 Fn (g := (mkF m 1 #[(VR a)] [(.ref a)])) rfl rfl (B d21_1)
  obtain ⟨fs, hretL, hrun, hended, hW, hsame⟩ := X1.leave (v := some (.int cn)) (fun h => by rw [Bd.returns] at h; cases h)
  refine ⟨_, _, pre0 _ ?_, hrun, hended, _, _, rfl, ?_, ⟨_, rfl⟩, hW, hsame.mono (by decide) (by decide)⟩
  · refine XS.aloadN X0.here hx rfl (B d21_0) rfl rfl ?_
    refine st1 _ ?_
    show GO p e below T1 (mkF m 4 #[(VR a)] [(.int cn)]) _
    exact retOut X1 hx Bd.returns rfl (Or.inl ⟨rfl, Or.inl rfl, _, rfl⟩) (B d21_4) hretL
  · show Q_rmal Z a cn h0 n0 _ T1.heap _
    rw [e1]
    exact ⟨rfl, N0, rfl⟩
theorem d22_0 : decode jdk_67_method_93_code 0 = .ok (.aload_n 0, 1) := by decide +kernel
theorem d22_1 : decode jdk_67_method_93_code 1 = .ok (.invokespecial 343, 3) := by decide +kernel
theorem d22_4 : decode jdk_67_method_93_code 4 = .ok (.ireturn, 1) := by decide +kernel
def Q_rmsl (Z : State) (a : Addr) (cn : Int32) (h0 : Heap) (n0 : Nat) (v : Option Value) (h : Heap) (L : List Loc) : Prop := v = some (.int cn) ∧ Fr n0 L ∧ h = h0
theorem ef_rmsl (m : MethodId) (a : Addr) : entryFrame m #[(.ref a)] 1 = mkF m 0 #[.val (.ref a)] [] := by first | (simp [entryFrame, mkF, argsToLocals, Value.category]; done) | rfl
set_option maxRecDepth 65536 in
set_option maxHeartbeats 40000000 in
theorem rmsl (l : Launch) (Z : State) (a0 : Array Value) (hw : HW a0 Z) (ws : List Jvm.Cond) (a : Addr) (cn : Int32) (h0 : Heap) (n0 : Nat) (O0 : Old Z n0 h0) (Ea : Exa Z h0 a "java/lang/StringBuilder") (Fn : Fld Z h0 a "java/lang/AbstractStringBuilder" "count" "I" (.int cn)) :
    MetFree l my23 (head1 (Jvm.Cond.code my23 jdk_67_method_93_code 1 (some .int) :: ws) ({ frames := 1, cells := 0, slots := 0, locals := 12 } : Room)) (fun aa U => aa = #[(.ref a)] ∧ Z.Warmed39 U.vm ∧ U.heap = h0) (fun _ _ _ _ _ => True) (fun _ U o U' => ∃ v L, o = .returned v ∧ Q_rmsl Z a cn h0 n0 v U'.heap L ∧ FrameEnd U o U' L ({ frames := 1, cells := 0, slots := 0, locals := 12 } : Room).cells ({ frames := 1, cells := 0, slots := 0, locals := 12 } : Room).slots) := by
  refine MetFree.of_bodySF (plainFor_of_name pn5) hisR ?_
  intro p e s m args below meth c s₁ Bd hml0 hP hK
  obtain ⟨rfl, hZ, hh⟩ := hP
  have hx := Bd.exec
  have hby := Bd.bytes
  have B := fun {pc : Nat} {r} (h : decode jdk_67_method_93_code pc = r) => hb hby h
  have hml : c.maxLocals = 1 := hml0
  have hown : s.vm.findClass "java/lang/StringBuilder" = some m.cls := findClass_of_methodNamed Bd.named
  have hnm := (name_of_methodNamed Bd.named Bd.method).1
  have X0 : Stand p l e ({ frames := 1, cells := 0, slots := 0, locals := 12 } : Room) s m #[(.ref a)] below meth c s₁ [] 0 0 := Stand.of_body Bd
  have e0 : s₁.heap = h0 := by rw [← hh, Bd.state]; rfl
  have N0 := Fr.nil n0
  have K0 : Keep h0 h0 [] := Keep.refl _ _
  have pre0 : ∀ tgt, Steps p.tables e below (s₁.setTop (mkF m 0 #[.val (.ref a)] [])) tgt → Steps p.tables e below (s₁.setTop (entryFrame m #[(.ref a)] 1)) tgt := fun tgt kgo => castTop (ef_rmsl m a) kgo
  obtain ⟨_, _, ⟨T1, L1, k1, n1⟩, -, X1, ⟨Lc1, hQ1, l1, y1, z1⟩, st1⟩ := superBack X0 hx hZ (y := my22) hown (ow137 hw) (own_same (ow133 hw) (ow92 hw) rfl (by decide)) (ow133 hw) (ow83 hw) (by decide) (backOf (W := 0) (rmal l Z a0 hw [] a cn h0 n0 O0 Fn) hZ (ow138 hw) (ow65 hw) (by decide) (by decide)) e0 (Ins.self Ea) (g := (mkF m 1 #[(VR a)] [(.ref a)])) rfl (by rw [hml]; rfl) (ow138 hw) (argsL := []) (rest := []) (lenOf pd9 rfl) rfl (w0 rfl rfl) (B d22_1) (fun _ _ => ⟨rfl, e0, (by decide : 0 + 0 ≤ _), (by decide : 0 + 0 ≤ _)⟩)
  dsimp only [Pt.U, Pt.locs, Pt.cells, Pt.slots] at X1 l1 y1 z1 st1 hQ1
  rw [l1, y1, z1] at X1
  obtain ⟨rfl, Nq1, eq1⟩ := hQ1
  have N2 := Fr.app N0 Nq1
  obtain ⟨fs, hretL, hrun, hended, hW, hsame⟩ := X1.leave (v := some (.int cn)) (fun h => by rw [Bd.returns] at h; cases h)
  refine ⟨_, _, pre0 _ ?_, hrun, hended, _, _, rfl, ?_, ⟨_, rfl⟩, hW, hsame.mono (by decide) (by decide)⟩
  · refine XS.aloadN X0.here hx rfl (B d22_0) rfl rfl ?_
    refine st1.trans ?_
    show GO p e below T1 (mkF m 4 #[(VR a)] [(.int cn)]) _
    exact retOut X1 hx Bd.returns rfl (Or.inl ⟨rfl, Or.inl rfl, _, rfl⟩) (B d22_4) hretL
  · show Q_rmsl Z a cn h0 n0 _ T1.heap _
    rw [eq1]
    exact ⟨rfl, N2, rfl⟩
theorem d23_0 : decode jdk_68_method_68_code 0 = .ok (.getstatic 18, 3) := by decide +kernel
theorem d23_3 : decode jdk_68_method_68_code 3 = .ok (.ifCond .eq 14, 3) := by decide +kernel
theorem d23_6 : decode jdk_68_method_68_code 6 = .ok (.aload_n 0, 1) := by decide +kernel
theorem d23_7 : decode jdk_68_method_68_code 7 = .ok (.getfield 22, 3) := by decide +kernel
theorem d23_10 : decode jdk_68_method_68_code 10 = .ok (.ifCond .ne 7, 3) := by decide +kernel
theorem d23_13 : decode jdk_68_method_68_code 13 = .ok (.iconst 1, 1) := by decide +kernel
theorem d23_14 : decode jdk_68_method_68_code 14 = .ok (.goto 4, 3) := by decide +kernel
theorem d23_18 : decode jdk_68_method_68_code 18 = .ok (.ireturn, 1) := by decide +kernel
def Q_rmila (Z : State) (a : Addr) (G1 : Int32) (h0 : Heap) (n0 : Nat) (v : Option Value) (h : Heap) (L : List Loc) : Prop := v = some (.int (1 : Int32)) ∧ Fr n0 L ∧ h = h0
theorem ef_rmila (m : MethodId) (a : Addr) : entryFrame m #[(.ref a)] 1 = mkF m 0 #[.val (.ref a)] [] := by first | (simp [entryFrame, mkF, argsToLocals, Value.category]; done) | rfl
set_option maxRecDepth 65536 in
set_option maxHeartbeats 40000000 in
theorem rmila (l : Launch) (Z : State) (a0 : Array Value) (hw : HW a0 Z) (ws : List Jvm.Cond) (a : Addr) (G1 : Int32) (h0 : Heap) (n0 : Nat) (O0 : Old Z n0 h0) (O2 : Sta Z Z.heap "java/lang/String" "COMPACT_STRINGS" "Z" (.int G1)) (P5 : ¬ (G1 = (0 : Int32))) (Fc : Fld Z h0 a "java/lang/AbstractStringBuilder" "coder" "B" (.int (0 : Int32))) :
    MetFree l my24 (head1 (Jvm.Cond.code my24 jdk_68_method_68_code 1 (some .boolean) :: ws) ({ frames := 0, cells := 0, slots := 0, locals := 0 } : Room)) (fun aa U => aa = #[(.ref a)] ∧ Z.Warmed39 U.vm ∧ U.heap = h0) (fun _ _ _ _ _ => True) (fun _ U o U' => ∃ v L, o = .returned v ∧ Q_rmila Z a G1 h0 n0 v U'.heap L ∧ FrameEnd U o U' L ({ frames := 0, cells := 0, slots := 0, locals := 0 } : Room).cells ({ frames := 0, cells := 0, slots := 0, locals := 0 } : Room).slots) := by
  refine MetFree.of_bodySF (plainFor_of_name pn4) hisR ?_
  intro p e s m args below meth c s₁ Bd hml0 hP hK
  obtain ⟨rfl, hZ, hh⟩ := hP
  have hx := Bd.exec
  have hby := Bd.bytes
  have B := fun {pc : Nat} {r} (h : decode jdk_68_method_68_code pc = r) => hb hby h
  have hml : c.maxLocals = 1 := hml0
  have hown : s.vm.findClass "java/lang/AbstractStringBuilder" = some m.cls := findClass_of_methodNamed Bd.named
  have hnm := (name_of_methodNamed Bd.named Bd.method).1
  have X0 : Stand p l e ({ frames := 0, cells := 0, slots := 0, locals := 0 } : Room) s m #[(.ref a)] below meth c s₁ [] 0 0 := Stand.of_body Bd
  have e0 : s₁.heap = h0 := by rw [← hh, Bd.state]; rfl
  have N0 := Fr.nil n0
  have K0 : Keep h0 h0 [] := Keep.refl _ _
  have pre0 : ∀ tgt, Steps p.tables e below (s₁.setTop (mkF m 0 #[.val (.ref a)] [])) tgt → Steps p.tables e below (s₁.setTop (entryFrame m #[(.ref a)] 1)) tgt := fun tgt kgo => castTop (ef_rmila m a) kgo
  obtain ⟨T1, X1, e1, st1⟩ := getS2 X0 hx hZ hown (host := "") (Or.inl (ow68 hw)) Via.refl e0 (O2.ext O0.2) (g := (mkF m 0 #[(VR a)] [])) rfl (B d23_0)
  obtain ⟨T2, X2, e2, st2⟩ := getF X1 hx hZ hown (host := "") (Or.inl (ow71 hw)) Via.refl e1 Fc (g := (mkF m 7 #[(VR a)] [(.ref a)])) rfl rfl (B d23_7)
  obtain ⟨fs, hretL, hrun, hended, hW, hsame⟩ := X2.leave (v := some (.int (1 : Int32))) (fun h => by rw [Bd.returns] at h; cases h)
  refine ⟨_, _, pre0 _ ?_, hrun, hended, _, _, rfl, ?_, ⟨_, rfl⟩, hW, hsame.mono (by decide) (by decide)⟩
  · refine st1 _ ?_
    show GO p e below T1 (mkF m 3 #[(VR a)] [(.int G1)]) _
    refine XS.ifNo X1.here hx rfl (B d23_3) rfl ((if0 _ _).trans (feq P5).1) ?_
    show GO p e below T1 (mkF m 6 #[(VR a)] []) _
    refine XS.aloadN X1.here hx rfl (B d23_6) rfl rfl ?_
    refine st2 _ ?_
    show GO p e below T2 (mkF m 10 #[(VR a)] [(.int 0)]) _
    refine XS.ifNo X2.here hx rfl (B d23_10) rfl ((if0 _ _).trans (teq (by decide : (0 : Int32) = (0 : Int32))).2) ?_
    show GO p e below T2 (mkF m 13 #[(VR a)] []) _
    refine XS.iconst X2.here hx rfl (B d23_13) ?_
    refine XS.goto X2.here hx rfl (pc0 := 14) (pc' := 18) rfl (B d23_14) (by decide) (by decide) ?_
    exact retOut X2 hx Bd.returns rfl (Or.inl ⟨rfl, Or.inr (Or.inl rfl), _, rfl⟩) (B d23_18) hretL
  · show Q_rmila Z a G1 h0 n0 _ T2.heap _
    rw [e2]
    exact ⟨rfl, N0, rfl⟩
theorem d24_0 : decode jdk_65_method_133_code 0 = .ok (.iload_n 1, 1) := by decide +kernel
theorem d24_1 : decode jdk_65_method_133_code 1 = .ok (.iload_n 2, 1) := by decide +kernel
theorem d24_2 : decode jdk_65_method_133_code 2 = .ok (.invokestatic 343, 3) := by decide +kernel
theorem d24_5 : decode jdk_65_method_133_code 5 = .ok (.iload_n 2, 1) := by decide +kernel
theorem d24_6 : decode jdk_65_method_133_code 6 = .ok (.iload_n 1, 1) := by decide +kernel
theorem d24_7 : decode jdk_65_method_133_code 7 = .ok (.isub, 1) := by decide +kernel
theorem d24_8 : decode jdk_65_method_133_code 8 = .ok (.istore_n 3, 1) := by decide +kernel
theorem d24_9 : decode jdk_65_method_133_code 9 = .ok (.iload_n 3, 1) := by decide +kernel
theorem d24_10 : decode jdk_65_method_133_code 10 = .ok (.newarray .byte, 2) := by decide +kernel
theorem d24_12 : decode jdk_65_method_133_code 12 = .ok (.astore 4, 2) := by decide +kernel
theorem d24_14 : decode jdk_65_method_133_code 14 = .ok (.aload_n 0, 1) := by decide +kernel
theorem d24_15 : decode jdk_65_method_133_code 15 = .ok (.iload_n 1, 1) := by decide +kernel
theorem d24_16 : decode jdk_65_method_133_code 16 = .ok (.aload 4, 2) := by decide +kernel
theorem d24_18 : decode jdk_65_method_133_code 18 = .ok (.iconst 0, 1) := by decide +kernel
theorem d24_19 : decode jdk_65_method_133_code 19 = .ok (.aload_n 0, 1) := by decide +kernel
theorem d24_20 : decode jdk_65_method_133_code 20 = .ok (.arraylength, 1) := by decide +kernel
theorem d24_21 : decode jdk_65_method_133_code 21 = .ok (.iload_n 1, 1) := by decide +kernel
theorem d24_22 : decode jdk_65_method_133_code 22 = .ok (.isub, 1) := by decide +kernel
theorem d24_23 : decode jdk_65_method_133_code 23 = .ok (.iload_n 3, 1) := by decide +kernel
theorem d24_24 : decode jdk_65_method_133_code 24 = .ok (.invokestatic 304, 3) := by decide +kernel
theorem d24_27 : decode jdk_65_method_133_code 27 = .ok (.invokestatic 150, 3) := by decide +kernel
theorem d24_30 : decode jdk_65_method_133_code 30 = .ok (.aload 4, 2) := by decide +kernel
theorem d24_32 : decode jdk_65_method_133_code 32 = .ok (.areturn, 1) := by decide +kernel
def Q_rmcrb (Z : State) (tb : Addr) (ei : Int32) (kb : ClassId) (vs : List Value) (nn : Nat) (kk : Nat) (h0 : Heap) (n0 : Nat) (v : Option Value) (h : Heap) (L : List Loc) : Prop := ∃ (b : Addr) (k' : ClassId), v = some (.ref b) ∧ Fr n0 L ∧ Keep h0 h [] ∧ n0 ≤ b ∧ h0.size ≤ b ∧ Arv Z h b k' .byte (Int32.ofNat kk) (vs.take kk) (.int (0 : Int32))
theorem ef_rmcrb (m : MethodId) (tb : Addr) (ei : Int32) : entryFrame m #[(.ref tb), (.int (0 : Int32)), (.int ei)] 5 = mkF m 0 #[.val (.ref tb), .val (.int (0 : Int32)), .val (.int ei), .unset, .unset] [] := by first | (simp [entryFrame, mkF, argsToLocals, Value.category]; done) | rfl
set_option maxRecDepth 65536 in
set_option maxHeartbeats 40000000 in
theorem rmcrb (l : Launch) (Z : State) (a0 : Array Value) (hw : HW a0 Z) (ws : List Jvm.Cond) (tb : Addr) (ei : Int32) (kb : ClassId) (vs : List Value) (nn : Nat) (kk : Nat) (h0 : Heap) (n0 : Nat) (O0 : Old Z n0 h0) (At : Arv Z h0 tb kb .byte (Int32.ofNat nn) vs (.int (0 : Int32))) (hei : ei = Int32.ofNat kk) (hkv : kk ≤ vs.length) (hkn : kk < nn) (hk : kk ≤ 65) (hn : nn ≤ 1000) :
    MetFree l my25 (head1 (Jvm.Cond.code my25 jdk_65_method_133_code 5 (some (.array .byte)) :: ws) ({ frames := 1, cells := 1, slots := 65, locals := 60 } : Room)) (fun aa U => aa = #[(.ref tb), (.int (0 : Int32)), (.int ei)] ∧ Z.Warmed39 U.vm ∧ U.heap = h0) (fun _ _ _ _ _ => True) (fun _ U o U' => ∃ v L, o = .returned v ∧ Q_rmcrb Z tb ei kb vs nn kk h0 n0 v U'.heap L ∧ FrameEnd U o U' L ({ frames := 1, cells := 1, slots := 65, locals := 60 } : Room).cells ({ frames := 1, cells := 1, slots := 65, locals := 60 } : Room).slots) := by
  refine MetFree.of_bodySF (plainFor_of_name pn2) hisR ?_
  intro p e s m args below meth c s₁ Bd hml0 hP hK
  obtain ⟨rfl, hZ, hh⟩ := hP
  have hx := Bd.exec
  have hby := Bd.bytes
  have B := fun {pc : Nat} {r} (h : decode jdk_65_method_133_code pc = r) => hb hby h
  have hml : c.maxLocals = 5 := hml0
  have hown : s.vm.findClass "java/util/Arrays" = some m.cls := findClass_of_methodNamed Bd.named
  have hnm := (name_of_methodNamed Bd.named Bd.method).1
  have X0 : Stand p l e ({ frames := 1, cells := 1, slots := 65, locals := 60 } : Room) s m #[(.ref tb), (.int (0 : Int32)), (.int ei)] below meth c s₁ [] 0 0 := Stand.of_body Bd
  have e0 : s₁.heap = h0 := by rw [← hh, Bd.state]; rfl
  have N0 := Fr.nil n0
  have K0 : Keep h0 h0 [] := Keep.refl _ _
  have pre0 : ∀ tgt, Steps p.tables e below (s₁.setTop (mkF m 0 #[.val (.ref tb), .val (.int (0 : Int32)), .val (.int ei), .unset, .unset] [])) tgt → Steps p.tables e below (s₁.setTop (entryFrame m #[(.ref tb), (.int (0 : Int32)), (.int ei)] 5)) tgt := fun tgt kgo => castTop (ef_rmcrb m tb ei) kgo
  obtain ⟨_, _, ⟨T1, L1, k1, n1⟩, -, X1, ⟨Lc1, hQ1, l1, y1, z1⟩, st1⟩ := Jvm.LawKit.callS X0 hx (y := my5) hown (mvT hZ (ow151 hw)) (mvT hZ (ow152 hw)) (mvT hZ (ow146 hw)) (mvT hZ (ow153 hw)) (by decide) (backOf (W := 0) (rmcl l Z a0 hw [] (0 : Int32) ei  h0 n0 O0 (by rw [hei]; exact on_n0 (by omega))) hZ (ow153 hw) (ow146 hw) (by decide) (by decide)) (g := (mkF m 2 #[(VR tb), (VI 0), (VI ei), .unset, .unset] [(.int ei), (.int 0)])) rfl (by rw [hml]; rfl) (argsL := [(.int 0), (.int ei)]) (rest := []) (lenOf pd13 rfl) rfl (w0 rfl rfl) (B d24_2) (fun _ _ => ⟨rfl, e0, (by decide : 0 + 0 ≤ _), (by decide : 0 + 0 ≤ _)⟩)
  dsimp only [Pt.U, Pt.locs, Pt.cells, Pt.slots] at X1 l1 y1 z1 st1 hQ1
  rw [l1, y1, z1] at X1
  obtain ⟨rfl, Nq1, eq1⟩ := hQ1
  have N2 := Fr.app N0 Nq1
  have pre3 : ∀ tgt, Steps p.tables e below (T1.setTop (mkF m 9 #[(VR tb), (VI 0), (VI ei), (VI (ei - (0 : Int32))), .unset] [])) tgt → Steps p.tables e below (s₁.setTop (entryFrame m #[(.ref tb), (.int (0 : Int32)), (.int ei)] 5)) tgt := by
    intro tgt kgo
    refine pre0 _ ?_
    refine XS.iloadN X0.here hx rfl (B d24_0) rfl ?_
    refine XS.iloadN X0.here hx rfl (B d24_1) rfl ?_
    refine st1 _ ?_
    show GO p e below T1 (mkF m 5 #[(VR tb), (VI 0), (VI ei), .unset, .unset] []) _
    refine XS.iloadN X1.here hx rfl (B d24_5) rfl ?_
    refine XS.iloadN X1.here hx rfl (B d24_6) rfl ?_
    refine XS.isub X1.here hx rfl (B d24_7) rfl ?_
    refine XS.istoreN X1.here hx rfl (B d24_8) rfl (l' := #[.val (.ref tb), .val (.int (0 : Int32)), .val (.int ei), .val (.int (ei - (0 : Int32))), .unset]) rfl ?_
    exact kgo
  obtain ⟨lk, hlk⟩ : ∃ z, z = (ei - (0 : Int32)) := ⟨_, rfl⟩
  have pre4 : ∀ tgt, Steps p.tables e below (T1.setTop (mkF m 9 #[(VR tb), (VI 0), (VI ei), (VI lk), .unset] [])) tgt → Steps p.tables e below (s₁.setTop (entryFrame m #[(.ref tb), (.int (0 : Int32)), (.int ei)] 5)) tgt := by
    rw [hlk]; exact pre3
  have hlk' : lk = Int32.ofNat kk := by rw [hlk, own_sub0, hei]
  have hck : lk.toNatClampNeg = kk := by rw [hlk']; exact on_cl (by omega)
  obtain ⟨T5, h5, k5, X5, e5, E5, A5, st5⟩ := newP (aty := .byte) X1 hx hZ (ow30 hw) eq1 (g := (mkF m 10 #[(VR tb), (VI 0), (VI ei), (VI lk), .unset] [(.int lk)])) rfl (B d24_10) rfl (by rw [hlk']; exact on_n0 (by omega)) (cap := 65) (by rw [hck]; exact hk) (by decide) (by decide) (by decide)
  obtain ⟨b5, g5⟩ : ∃ z, z = h0.size := ⟨_, rfl⟩
  rw [← g5] at A5 st5
  have V5 : Arv Z h5 b5 k5 .byte lk (List.replicate kk (.int (0 : Int32))) (.int (0 : Int32)) := (Arv.new A5 (by rw [hlk']; exact on_n0 (by omega))).pad (pad_rep [] (.int (0 : Int32)) kk)
  have gn5 : n0 ≤ b5 := Nat.le_trans (own_sz O0) (Nat.le_of_eq g5.symm)
  have sz5 : h0.size ≤ b5 := Nat.le_trans K0.1 (Nat.le_of_eq g5.symm)
  have netb_5 : tb ≠ b5 := Nat.ne_of_lt (Nat.lt_of_lt_of_le At.lt (Nat.le_of_eq g5.symm))
  have Ol6 := O0.ext E5
  have K6 := K0.ext E5
  have f7 := (At.ext E5)
  obtain ⟨cl8, Ar8, q8, S8, M8, H8, G8⟩ := id f7
  obtain ⟨_, _, ⟨T9, L9, k9, n9⟩, -, X9, ⟨Lc9, hQ9, l9, y9, z9⟩, st9⟩ := Jvm.LawKit.callS X5 hx (y := my7) hown (mvT hZ (ow154 hw)) (mvT hZ (ow6 hw)) (mvT hZ (ow7 hw)) (mvT hZ (ow8 hw)) (by decide) (backOf (W := 4) (rmmin l Z a0 hw [] ((Int32.ofNat nn) - (0 : Int32)) lk  h5 n0 Ol6 ) hZ (ow8 hw) (ow7 hw) (by decide) (by decide)) (g := (mkF m 24 #[(VR tb), (VI 0), (VI ei), (VI lk), (VR b5)] [(.int lk), (.int ((Int32.ofNat nn) - (0 : Int32))), (.int 0), (.ref b5), (.int 0), (.ref tb)])) rfl (by rw [hml]; rfl) (argsL := [(.int ((Int32.ofNat nn) - (0 : Int32))), (.int lk)]) (rest := [(.int 0), (.ref b5), (.int 0), (.ref tb)]) (lenOf pd2 rfl) rfl (w0 rfl rfl) (B d24_24) (fun _ _ => ⟨rfl, e5, (by decide : 1 + 0 ≤ _), (by decide : 65 + 0 ≤ _)⟩)
  dsimp only [Pt.U, Pt.locs, Pt.cells, Pt.slots] at X9 l9 y9 z9 st9 hQ9
  rw [l9, y9, z9] at X9
  obtain ⟨hv9, Nq9, eq9⟩ := hQ9
  obtain rfl := own_crm hv9 hlk' hkn (by omega)
  have N10 := Fr.app N2 Nq9
  obtain ⟨T12, h12, lo12, X12, e12, N12, kp12, V12, st12⟩ := cpA X9 hx hZ hown (ow155 hw) (ow113 hw) (ow111 hw) (ow112 hw) eq9 f7 V5 (Or.inl ⟨rfl, rfl⟩) (us := (vs.take kk)) (by decide) (by decide) (by rw [hlk']; exact on_n0 (by omega)) (by rw [show (0 : Int32).toNatClampNeg = 0 from rfl, hck, on_cl (by omega)]; omega) (by rw [show (0 : Int32).toNatClampNeg = 0 from rfl]; omega) (by rw [show (0 : Int32).toNatClampNeg = 0 from rfl, hck]; simp only [Nat.zero_add]; exact (own_rg _ _ _ hkv).symm) (by rw [show (0 : Int32).toNatClampNeg = 0 from rfl, hck, List.length_replicate]; omega) N10 gn5 (g := (mkF m 27 #[(VR tb), (VI 0), (VI ei), (VI lk), (VR b5)] [(.int lk), (.int 0), (.ref b5), (.int 0), (.ref tb)])) rfl (by rw [hml]; rfl) rfl (B d24_27) (by decide) (W := 0) (by show 2 * 0 + _ ≤ _; exact Nat.le_of_eq rfl) (by decide)
  have Ol13 := Ol6.keep kp12 (allS gn5 all0)
  have K13 := K6.trans kp12 (allS (Or.inr sz5) all0)
  have Vc12 : Arv Z h12 b5 k5 .byte lk (vs.take kk) (.int (0 : Int32)) := (by have q := V12; rw [hck, show (0 : Int32).toNatClampNeg = 0 from rfl] at q; simpa using q)
  obtain ⟨fs, hretL, hrun, hended, hW, hsame⟩ := X12.leave (v := some (.ref b5)) (fun h => by rw [Bd.returns] at h; cases h)
  refine ⟨_, _, pre4 _ ?_, hrun, hended, _, _, rfl, ?_, ⟨_, rfl⟩, hW, hsame.mono (by decide) (by decide)⟩
  · refine XS.iloadN X1.here hx rfl (B d24_9) rfl ?_
    refine st5 _ ?_
    show GO p e below T5 (mkF m 12 #[(VR tb), (VI 0), (VI ei), (VI lk), .unset] [(.ref b5)]) _
    refine XS.astore X5.here hx rfl (B d24_12) rfl rfl (l' := #[.val (.ref tb), .val (.int (0 : Int32)), .val (.int ei), .val (.int lk), .val (.ref b5)]) rfl ?_
    refine XS.aloadN X5.here hx rfl (B d24_14) rfl rfl ?_
    refine XS.iloadN X5.here hx rfl (B d24_15) rfl ?_
    refine XS.aload X5.here hx rfl (B d24_16) rfl rfl ?_
    refine XS.iconst X5.here hx rfl (B d24_18) ?_
    refine XS.aloadN X5.here hx rfl (B d24_19) rfl rfl ?_
    refine X5.arraylength hx (by rw [e5]; exact Ar8.1) (State.isArrayOf_alike hZ.alike Ar8.2.1) (g := (mkF m 20 #[.val (.ref tb), .val (.int (0 : Int32)), .val (.int ei), .val (.int lk), .val (.ref b5)] [(.ref tb), (.int (0 : Int32)), (.ref b5), (.int (0 : Int32)), (.ref tb)])) rfl rfl (B d24_20) _ ?_
    rw [len_of S8 M8]
    show GO p e below T5 (mkF m 21 #[(VR tb), (VI 0), (VI ei), (VI lk), (VR b5)] [(.int (Int32.ofNat nn)), (.int 0), (.ref b5), (.int 0), (.ref tb)]) _
    refine XS.iloadN X5.here hx rfl (B d24_21) rfl ?_
    refine XS.isub X5.here hx rfl (B d24_22) rfl ?_
    refine XS.iloadN X5.here hx rfl (B d24_23) rfl ?_
    refine st9 _ ?_
    show GO p e below T9 (mkF m 27 #[(VR tb), (VI 0), (VI ei), (VI lk), (VR b5)] [(.int lk), (.int 0), (.ref b5), (.int 0), (.ref tb)]) _
    refine st12 _ ?_
    show GO p e below T12 (mkF m 30 #[(VR tb), (VI 0), (VI ei), (VI lk), (VR b5)] []) _
    refine XS.aload X12.here hx rfl (B d24_30) rfl rfl ?_
    exact retOut X12 hx Bd.returns rfl (Or.inr (Or.inr (Or.inr (Or.inr ⟨rfl, rfl, rfl⟩)))) (B d24_32) hretL
  · show Q_rmcrb Z tb ei kb vs nn kk h0 n0 _ T12.heap _
    rw [e12]
    exact ⟨_, _, rfl, N12, K13, gn5, sz5, hlk' ▸ Vc12⟩
theorem d25_0 : decode jdk_65_method_132_code 0 = .ok (.iload_n 1, 1) := by decide +kernel
theorem d25_1 : decode jdk_65_method_132_code 1 = .ok (.ifCond .ne 9, 3) := by decide +kernel
theorem d25_4 : decode jdk_65_method_132_code 4 = .ok (.iload_n 2, 1) := by decide +kernel
theorem d25_5 : decode jdk_65_method_132_code 5 = .ok (.aload_n 0, 1) := by decide +kernel
theorem d25_6 : decode jdk_65_method_132_code 6 = .ok (.arraylength, 1) := by decide +kernel
theorem d25_7 : decode jdk_65_method_132_code 7 = .ok (.if_icmp .eq 10, 3) := by decide +kernel
theorem d25_10 : decode jdk_65_method_132_code 10 = .ok (.aload_n 0, 1) := by decide +kernel
theorem d25_11 : decode jdk_65_method_132_code 11 = .ok (.iload_n 1, 1) := by decide +kernel
theorem d25_12 : decode jdk_65_method_132_code 12 = .ok (.iload_n 2, 1) := by decide +kernel
theorem d25_13 : decode jdk_65_method_132_code 13 = .ok (.invokestatic 339, 3) := by decide +kernel
theorem d25_16 : decode jdk_65_method_132_code 16 = .ok (.areturn, 1) := by decide +kernel
def Q_rmcr (Z : State) (tb : Addr) (ei : Int32) (kb : ClassId) (vs : List Value) (nn : Nat) (kk : Nat) (h0 : Heap) (n0 : Nat) (v : Option Value) (h : Heap) (L : List Loc) : Prop := ∃ (b : Addr) (k' : ClassId), v = some (.ref b) ∧ Fr n0 L ∧ Keep h0 h [] ∧ n0 ≤ b ∧ h0.size ≤ b ∧ Arv Z h b k' .byte (Int32.ofNat kk) (vs.take kk) (.int (0 : Int32))
theorem ef_rmcr (m : MethodId) (tb : Addr) (ei : Int32) : entryFrame m #[(.ref tb), (.int (0 : Int32)), (.int ei)] 3 = mkF m 0 #[.val (.ref tb), .val (.int (0 : Int32)), .val (.int ei)] [] := by first | (simp [entryFrame, mkF, argsToLocals, Value.category]; done) | rfl
set_option maxRecDepth 65536 in
set_option maxHeartbeats 40000000 in
theorem rmcr (l : Launch) (Z : State) (a0 : Array Value) (hw : HW a0 Z) (ws : List Jvm.Cond) (tb : Addr) (ei : Int32) (kb : ClassId) (vs : List Value) (nn : Nat) (kk : Nat) (h0 : Heap) (n0 : Nat) (O0 : Old Z n0 h0) (At : Arv Z h0 tb kb .byte (Int32.ofNat nn) vs (.int (0 : Int32))) (hei : ei = Int32.ofNat kk) (hkv : kk ≤ vs.length) (hkn : kk < nn) (hk : kk ≤ 65) (hn : nn ≤ 1000) :
    MetFree l my26 (head1 (Jvm.Cond.code my26 jdk_65_method_132_code 3 (some (.array .byte)) :: ws) ({ frames := 2, cells := 1, slots := 65, locals := 76 } : Room)) (fun aa U => aa = #[(.ref tb), (.int (0 : Int32)), (.int ei)] ∧ Z.Warmed39 U.vm ∧ U.heap = h0) (fun _ _ _ _ _ => True) (fun _ U o U' => ∃ v L, o = .returned v ∧ Q_rmcr Z tb ei kb vs nn kk h0 n0 v U'.heap L ∧ FrameEnd U o U' L ({ frames := 2, cells := 1, slots := 65, locals := 76 } : Room).cells ({ frames := 2, cells := 1, slots := 65, locals := 76 } : Room).slots) := by
  refine MetFree.of_bodySF (plainFor_of_name pn2) hisR ?_
  intro p e s m args below meth c s₁ Bd hml0 hP hK
  obtain ⟨rfl, hZ, hh⟩ := hP
  have hx := Bd.exec
  have hby := Bd.bytes
  have B := fun {pc : Nat} {r} (h : decode jdk_65_method_132_code pc = r) => hb hby h
  have hml : c.maxLocals = 3 := hml0
  have hown : s.vm.findClass "java/util/Arrays" = some m.cls := findClass_of_methodNamed Bd.named
  have hnm := (name_of_methodNamed Bd.named Bd.method).1
  have X0 : Stand p l e ({ frames := 2, cells := 1, slots := 65, locals := 76 } : Room) s m #[(.ref tb), (.int (0 : Int32)), (.int ei)] below meth c s₁ [] 0 0 := Stand.of_body Bd
  have e0 : s₁.heap = h0 := by rw [← hh, Bd.state]; rfl
  have N0 := Fr.nil n0
  have K0 : Keep h0 h0 [] := Keep.refl _ _
  have pre0 : ∀ tgt, Steps p.tables e below (s₁.setTop (mkF m 0 #[.val (.ref tb), .val (.int (0 : Int32)), .val (.int ei)] [])) tgt → Steps p.tables e below (s₁.setTop (entryFrame m #[(.ref tb), (.int (0 : Int32)), (.int ei)] 3)) tgt := fun tgt kgo => castTop (ef_rmcr m tb ei) kgo
  obtain ⟨cl1, Ar1, q1, S1, M1, H1, G1⟩ := id At
  obtain ⟨_, _, ⟨T2, L2, k2, n2⟩, -, X2, ⟨Lc2, hQ2, l2, y2, z2⟩, st2⟩ := Jvm.LawKit.callS X0 hx (y := my25) hown (mvT hZ (ow148 hw)) (mvT hZ (ow149 hw)) (mvT hZ (ow146 hw)) (mvT hZ (ow150 hw)) (by decide) (backOf (W := 0) (rmcrb l Z a0 hw [] tb ei kb vs nn kk h0 n0 O0 At hei hkv hkn hk hn) hZ (ow150 hw) (ow146 hw) (by decide) (by decide)) (g := (mkF m 13 #[(VR tb), (VI 0), (VI ei)] [(.int ei), (.int 0), (.ref tb)])) rfl (by rw [hml]; rfl) (argsL := [(.ref tb), (.int 0), (.int ei)]) (rest := []) (lenOf pd14 rfl) rfl (w0 rfl rfl) (B d25_13) (fun _ _ => ⟨rfl, e0, (by decide : 0 + 1 ≤ _), (by decide : 0 + 65 ≤ _)⟩)
  dsimp only [Pt.U, Pt.locs, Pt.cells, Pt.slots] at X2 l2 y2 z2 st2 hQ2
  rw [l2, y2, z2] at X2
  obtain ⟨nb2, nk2, rfl, Nq2, kp2, qr2⟩ := hQ2
  have N3 := Fr.app N0 Nq2
  have Ol4 := O0.keep kp2 all0
  have K4 := K0.trans kp2 all0
  obtain ⟨fs, hretL, hrun, hended, hW, hsame⟩ := X2.leave (v := some (.ref nb2)) (fun h => by rw [Bd.returns] at h; cases h)
  refine ⟨_, _, pre0 _ ?_, hrun, hended, _, _, rfl, ?_, ⟨_, rfl⟩, hW, hsame.mono (by decide) (by decide)⟩
  · refine XS.iloadN X0.here hx rfl (B d25_0) rfl ?_
    refine XS.ifNo X0.here hx rfl (B d25_1) rfl ((if0 _ _).trans (teq (by decide : (0 : Int32) = (0 : Int32))).2) ?_
    show GO p e below s₁ (mkF m 4 #[(VR tb), (VI 0), (VI ei)] []) _
    refine XS.iloadN X0.here hx rfl (B d25_4) rfl ?_
    refine XS.aloadN X0.here hx rfl (B d25_5) rfl rfl ?_
    refine X0.arraylength hx (by rw [e0]; exact Ar1.1) (State.isArrayOf_alike hZ.alike Ar1.2.1) (g := (mkF m 6 #[.val (.ref tb), .val (.int (0 : Int32)), .val (.int ei)] [(.ref tb), (.int ei)])) rfl rfl (B d25_6) _ ?_
    rw [len_of S1 M1]
    show GO p e below s₁ (mkF m 7 #[(VR tb), (VI 0), (VI ei)] [(.int (Int32.ofNat nn)), (.int ei)]) _
    refine XS.icmpNo X0.here hx rfl (B d25_7) rfl (feq (by rw [hei, on_eq (by omega) (by omega)]; omega)).1 ?_
    show GO p e below s₁ (mkF m 10 #[(VR tb), (VI 0), (VI ei)] []) _
    refine XS.aloadN X0.here hx rfl (B d25_10) rfl rfl ?_
    refine XS.iloadN X0.here hx rfl (B d25_11) rfl ?_
    refine XS.iloadN X0.here hx rfl (B d25_12) rfl ?_
    refine st2 _ ?_
    show GO p e below T2 (mkF m 16 #[(VR tb), (VI 0), (VI ei)] [(.ref nb2)]) _
    exact retOut X2 hx Bd.returns rfl (Or.inr (Or.inr (Or.inr (Or.inr ⟨rfl, rfl, rfl⟩)))) (B d25_16) hretL
  · show Q_rmcr Z tb ei kb vs nn kk h0 n0 _ T2.heap _
    exact ⟨_, _, rfl, N3, K4, qr2⟩
theorem d26_0 : decode jdk_42_method_150_code 0 = .ok (.aload_n 0, 1) := by decide +kernel
theorem d26_1 : decode jdk_42_method_150_code 1 = .ok (.invokespecial 1, 3) := by decide +kernel
theorem d26_4 : decode jdk_42_method_150_code 4 = .ok (.aload_n 1, 1) := by decide +kernel
theorem d26_5 : decode jdk_42_method_150_code 5 = .ok (.invokevirtual 552, 3) := by decide +kernel
theorem d26_8 : decode jdk_42_method_150_code 8 = .ok (.astore_n 3, 1) := by decide +kernel
theorem d26_9 : decode jdk_42_method_150_code 9 = .ok (.aload_n 1, 1) := by decide +kernel
theorem d26_10 : decode jdk_42_method_150_code 10 = .ok (.invokevirtual 549, 3) := by decide +kernel
theorem d26_13 : decode jdk_42_method_150_code 13 = .ok (.istore 4, 2) := by decide +kernel
theorem d26_15 : decode jdk_42_method_150_code 15 = .ok (.aload_n 1, 1) := by decide +kernel
theorem d26_16 : decode jdk_42_method_150_code 16 = .ok (.invokevirtual 1047, 3) := by decide +kernel
theorem d26_19 : decode jdk_42_method_150_code 19 = .ok (.ifCond .eq 22, 3) := by decide +kernel
theorem d26_22 : decode jdk_42_method_150_code 22 = .ok (.aload_n 0, 1) := by decide +kernel
theorem d26_23 : decode jdk_42_method_150_code 23 = .ok (.iconst 0, 1) := by decide +kernel
theorem d26_24 : decode jdk_42_method_150_code 24 = .ok (.putfield 15, 3) := by decide +kernel
theorem d26_27 : decode jdk_42_method_150_code 27 = .ok (.aload_n 0, 1) := by decide +kernel
theorem d26_28 : decode jdk_42_method_150_code 28 = .ok (.aload_n 3, 1) := by decide +kernel
theorem d26_29 : decode jdk_42_method_150_code 29 = .ok (.iconst 0, 1) := by decide +kernel
theorem d26_30 : decode jdk_42_method_150_code 30 = .ok (.iload 4, 2) := by decide +kernel
theorem d26_32 : decode jdk_42_method_150_code 32 = .ok (.invokestatic 54, 3) := by decide +kernel
theorem d26_35 : decode jdk_42_method_150_code 35 = .ok (.putfield 9, 3) := by decide +kernel
theorem d26_38 : decode jdk_42_method_150_code 38 = .ok (.goto 59, 3) := by decide +kernel
theorem d26_97 : decode jdk_42_method_150_code 97 = .ok (.return_, 1) := by decide +kernel
def Q_rmst (Z : State) (a : Addr) (bd : Addr) (tb : Addr) (kb : ClassId) (cp : Nat) (cs : List Int32) (G1 : Int32) (h0 : Heap) (n0 : Nat) (v : Option Value) (h : Heap) (L : List Loc) : Prop := v = none ∧ Fr n0 L ∧ Keep h0 h [a] ∧ StrP Z h a cs
theorem ef_rmst (m : MethodId) (a : Addr) (bd : Addr) : entryFrame m #[(.ref a), (.ref bd), .null] 5 = mkF m 0 #[.val (.ref a), .val (.ref bd), .val .null, .unset, .unset] [] := by first | (simp [entryFrame, mkF, argsToLocals, Value.category]; done) | rfl
set_option maxRecDepth 65536 in
set_option maxHeartbeats 40000000 in
theorem rmst (l : Launch) (Z : State) (a0 : Array Value) (hw : HW a0 Z) (ws : List Jvm.Cond) (a : Addr) (bd : Addr) (tb : Addr) (kb : ClassId) (cp : Nat) (cs : List Int32) (G1 : Int32) (h0 : Heap) (n0 : Nat) (O0 : Old Z n0 h0) (O2 : Sta Z Z.heap "java/lang/String" "COMPACT_STRINGS" "Z" (.int G1)) (P5 : ¬ (G1 = (0 : Int32))) (Ea : Exa Z h0 a "java/lang/String") (Fv : Fld Z h0 a "java/lang/String" "value" "[B" .null) (Fc : Fld Z h0 a "java/lang/String" "coder" "B" (.int (0 : Int32))) (ga : n0 ≤ a) (Eb : Exa Z h0 bd "java/lang/StringBuilder") (Fbv : Fld Z h0 bd "java/lang/AbstractStringBuilder" "value" "[B" (.ref tb)) (Fbc : Fld Z h0 bd "java/lang/AbstractStringBuilder" "coder" "B" (.int (0 : Int32))) (Fbn : Fld Z h0 bd "java/lang/AbstractStringBuilder" "count" "I" (.int (Int32.ofNat (List.length cs)))) (At : Arv Z h0 tb kb .byte (Int32.ofNat cp) ((List.map (fun c => c.toInt8.toInt32) cs).map Value.int) (.int (0 : Int32))) (hsp : ∀ c ∈ cs, ¬ c < 0 ∧ ¬ (255 : Int32) < c) (hlt : List.length cs < cp) (hl : List.length cs ≤ 65) (hcp : cp ≤ 1000) :
    MetFree l my27 (head1 (Jvm.Cond.code my27 jdk_42_method_150_code 5 none :: ws) ({ frames := 3, cells := 1, slots := 65, locals := 91 } : Room)) (fun aa U => aa = #[(.ref a), (.ref bd), .null] ∧ Z.Warmed39 U.vm ∧ U.heap = h0) (fun _ _ _ _ _ => True) (fun _ U o U' => ∃ v L, o = .returned v ∧ Q_rmst Z a bd tb kb cp cs G1 h0 n0 v U'.heap L ∧ FrameEnd U o U' L ({ frames := 3, cells := 1, slots := 65, locals := 91 } : Room).cells ({ frames := 3, cells := 1, slots := 65, locals := 91 } : Room).slots) := by
  refine MetFree.of_bodySF (plainFor_of_name pn0) hisR ?_
  intro p e s m args below meth c s₁ Bd hml0 hP hK
  obtain ⟨rfl, hZ, hh⟩ := hP
  have hx := Bd.exec
  have hby := Bd.bytes
  have B := fun {pc : Nat} {r} (h : decode jdk_42_method_150_code pc = r) => hb hby h
  have hml : c.maxLocals = 5 := hml0
  have hown : s.vm.findClass "java/lang/String" = some m.cls := findClass_of_methodNamed Bd.named
  have hnm := (name_of_methodNamed Bd.named Bd.method).1
  have X0 : Stand p l e ({ frames := 3, cells := 1, slots := 65, locals := 91 } : Room) s m #[(.ref a), (.ref bd), .null] below meth c s₁ [] 0 0 := Stand.of_body Bd
  have e0 : s₁.heap = h0 := by rw [← hh, Bd.state]; rfl
  have N0 := Fr.nil n0
  have K0 : Keep h0 h0 [a] := Keep.refl _ _
  have pre0 : ∀ tgt, Steps p.tables e below (s₁.setTop (mkF m 0 #[.val (.ref a), .val (.ref bd), .val .null, .unset, .unset] [])) tgt → Steps p.tables e below (s₁.setTop (entryFrame m #[(.ref a), (.ref bd), .null] 5)) tgt := fun tgt kgo => castTop (ef_rmst m a bd) kgo
  have nab : a ≠ bd := Exa.ne Ea Eb (by decide)
  have nat : a ≠ tb := Exa.neArv Ea At (ow13 hw)
  obtain ⟨T1, X1, e1, st1⟩ := initO X0 hx hZ hown (ow22 hw) (ow23 hw) (ow24 hw) e0 (g := (mkF m 1 #[(VR a), (VR bd), (.val .null), .unset, .unset] [(.ref a)])) rfl (by rw [hml]; rfl) rfl (B d26_1) (by decide) (W := 0) (by show 2 * 0 + _ ≤ _; exact Nat.le_of_eq rfl) (by decide)
  obtain ⟨cq2, kq2, q2a, q2b, q2c⟩ := isOf hZ e1 Eb
  obtain ⟨_, _, ⟨T2, L2, k2, n2⟩, -, X2, ⟨Lc2, hQ2, l2, y2, z2⟩, st2⟩ := X1.virtualBack hx (y := my21) (z := my21) hown (mvT hZ (ow126 hw)) (mvT hZ (ow127 hw)) (notFace_of_selects (args := #[]) (mvT hZ (ow129 hw))) (mvT hZ (ow129 hw)) (mvT hZ (ow128 hw)) (by decide) (backOf (W := 0) (rmgv l Z a0 hw [] bd tb h0 n0 O0 Fbv) hZ (ow130 hw) (ow65 hw) (by decide) (by decide)) q2a q2c (g := (mkF m 5 #[(VR a), (VR bd), (.val .null), .unset, .unset] [(.ref bd)])) rfl (by rw [hml]; rfl) (Steps.refl _) (argsL := []) (rest := []) (lenOf pd15 rfl) rfl (w0 rfl rfl) (B d26_5) (fun _ _ => ⟨rfl, e1, (by decide : 0 + 0 ≤ _), (by decide : 0 + 0 ≤ _)⟩)
  dsimp only [Pt.U, Pt.locs, Pt.cells, Pt.slots] at X2 l2 y2 z2 st2 hQ2
  rw [l2, y2, z2] at X2
  obtain ⟨rfl, Nq2, eq2⟩ := hQ2
  have N3 := Fr.app N0 Nq2
  obtain ⟨cq4, kq4, q4a, q4b, q4c⟩ := isOf hZ eq2 Eb
  obtain ⟨_, _, ⟨T4, L4, k4, n4⟩, -, X4, ⟨Lc4, hQ4, l4, y4, z4⟩, st4⟩ := X2.virtualBack hx (y := my22) (z := my23) hown (mvT hZ (ow131 hw)) (mvT hZ (ow132 hw)) (own_nf (args := #[]) (mvT hZ (ow92 hw)) rfl) (mvT hZ (ow134 hw)) (mvT hZ (ow135 hw)) (by decide) (backOf (W := 0) (rmsl l Z a0 hw [] bd (Int32.ofNat (List.length cs)) h0 n0 O0 Eb Fbn) hZ (ow136 hw) (ow57 hw) (by decide) (by decide)) q4a q4c (g := (mkF m 10 #[(VR a), (VR bd), (.val .null), (VR tb), .unset] [(.ref bd)])) rfl (by rw [hml]; rfl) (Steps.refl _) (argsL := []) (rest := []) (lenOf pd9 rfl) rfl (w0 rfl rfl) (B d26_10) (fun _ _ => ⟨rfl, eq2, (by decide : 0 + 0 ≤ _), (by decide : 0 + 0 ≤ _)⟩)
  dsimp only [Pt.U, Pt.locs, Pt.cells, Pt.slots] at X4 l4 y4 z4 st4 hQ4
  rw [l4, y4, z4] at X4
  obtain ⟨rfl, Nq4, eq4⟩ := hQ4
  have N5 := Fr.app N3 Nq4
  obtain ⟨cq6, kq6, q6a, q6b, q6c⟩ := isOf hZ eq4 Eb
  obtain ⟨_, _, ⟨T6, L6, k6, n6⟩, -, X6, ⟨Lc6, hQ6, l6, y6, z6⟩, st6⟩ := X4.virtualBack hx (y := my24) (z := my24) hown (mvT hZ (ow139 hw)) (mvT hZ (ow140 hw)) (notFace_of_selects (args := #[]) (mvT hZ (ow142 hw))) (mvT hZ (ow142 hw)) (mvT hZ (ow141 hw)) (by decide) (backOf (W := 0) (rmila l Z a0 hw [] bd G1 h0 n0 O0 O2 P5 Fbc) hZ (ow143 hw) (ow65 hw) (by decide) (by decide)) q6a q6c (g := (mkF m 16 #[(VR a), (VR bd), (.val .null), (VR tb), (VI (Int32.ofNat (List.length cs)))] [(.ref bd)])) rfl (by rw [hml]; rfl) (Steps.refl _) (argsL := []) (rest := []) (lenOf pd16 rfl) rfl (w0 rfl rfl) (B d26_16) (fun _ _ => ⟨rfl, eq4, (by decide : 0 + 0 ≤ _), (by decide : 0 + 0 ≤ _)⟩)
  dsimp only [Pt.U, Pt.locs, Pt.cells, Pt.slots] at X6 l6 y6 z6 st6 hQ6
  rw [l6, y6, z6] at X6
  obtain ⟨rfl, Nq6, eq6⟩ := hQ6
  have N7 := Fr.app N5 Nq6
  obtain ⟨T8, h8, X8, e8, W8, st8⟩ := putFN X6 hx hZ hown (ow37 hw) Via.refl eq6 Fc Ea (Or.inr ⟨(ow38 hw), rfl, hnm⟩) (ow13 hw) (ty := .byte) (v' := (.int (nar .byte (0 : Int32)))) (by decide) rfl (fits_nar_byte _) (g := (mkF m 24 #[(VR a), (VR bd), (.val .null), (VR tb), (VI (Int32.ofNat (List.length cs)))] [(.int 0), (.ref a)])) rfl rfl (B d26_24)
  have Fw8 := Fc.same W8
  have N9 := Fr.snoc X8 N7 ga
  have Ol9 := O0.wr W8 ga
  have K9 := K0.wr W8 (Or.inl (List.mem_of_getElem? (i := 0) rfl))
  have f10 := (Eb.wr W8)
  have f11 := (At.other W8 (Ne.symm nat))
  have f12 := (Ea.wr W8)
  obtain ⟨_, _, ⟨T13, L13, k13, n13⟩, -, X13, ⟨Lc13, hQ13, l13, y13, z13⟩, st13⟩ := Jvm.LawKit.callS X8 hx (y := my26) hown (mvT hZ (ow144 hw)) (mvT hZ (ow145 hw)) (mvT hZ (ow146 hw)) (mvT hZ (ow147 hw)) (by decide) (backOf (W := 1) (rmcr l Z a0 hw [] tb (Int32.ofNat (List.length cs)) kb ((List.map (fun c => c.toInt8.toInt32) cs).map Value.int) cp (List.length cs) h8 n0 Ol9 f11 rfl (by rw [own_bl]; exact Nat.le_refl _) hlt hl hcp) hZ (ow147 hw) (ow146 hw) (by decide) (by decide)) (g := (mkF m 32 #[(VR a), (VR bd), (.val .null), (VR tb), (VI (Int32.ofNat (List.length cs)))] [(.int (Int32.ofNat (List.length cs))), (.int 0), (.ref tb), (.ref a)])) rfl (by rw [hml]; rfl) (argsL := [(.ref tb), (.int 0), (.int (Int32.ofNat (List.length cs)))]) (rest := [(.ref a)]) (lenOf pd14 rfl) rfl (w0 rfl rfl) (B d26_32) (fun _ _ => ⟨rfl, e8, (by decide : 0 + 1 ≤ _), (by decide : 0 + 65 ≤ _)⟩)
  dsimp only [Pt.U, Pt.locs, Pt.cells, Pt.slots] at X13 l13 y13 z13 st13 hQ13
  rw [l13, y13, z13] at X13
  obtain ⟨nb13, nk13, rfl, Nq13, kp13, gb13, gs13, nA13⟩ := hQ13
  have N14 := Fr.app N9 Nq13
  have Ol15 := Ol9.keep kp13 all0
  have K15 := K9.trans kp13 all0
  have gne13_bd : bd ≠ nb13 := Nat.ne_of_lt (Nat.lt_of_lt_of_le f10.lt gs13)
  have gne13_tb : tb ≠ nb13 := Nat.ne_of_lt (Nat.lt_of_lt_of_le f11.lt gs13)
  have gne13_a : a ≠ nb13 := Nat.ne_of_lt (Nat.lt_of_lt_of_le f12.lt gs13)
  have f16 := (f12.keep kp13)
  have f17 := ((Fv.other W8 (Or.inr (slot_ne (Or.inr (ow40 hw)) (Or.inr (ow38 hw)) (by decide) (t := (.array .byte)) (t' := .byte) (by decide) (by decide)))).keep kp13 nin0)
  obtain ⟨T18, h18, X18, e18, W18, st18⟩ := putF X13 hx hZ hown (host := "") (Or.inl (ow39 hw)) Via.refl rfl f17 f16 (Or.inr ⟨(ow40 hw), rfl, hnm⟩) (ow13 hw) (ty := (.array .byte)) (by decide) rfl rfl (g := (mkF m 35 #[(VR a), (VR bd), (.val .null), (VR tb), (VI (Int32.ofNat (List.length cs)))] [(.ref nb13), (.ref a)])) rfl rfl (B d26_35)
  have Fw18 := f17.same W18
  have N19 := Fr.snoc X18 N14 ga
  have Ol19 := Ol15.wr W18 ga
  have K19 := K15.wr W18 (Or.inl (List.mem_of_getElem? (i := 0) rfl))
  have f20 := (f16.wr W18)
  have f21 := ((Fw8.keep kp13 nin0).other W18 (Or.inr (slot_ne (Or.inr (ow38 hw)) (Or.inr (ow40 hw)) (by decide) (t := .byte) (t' := (.array .byte)) (by decide) (by decide))))
  have f22 := (nA13.other W18 (Ne.symm gne13_a))
  obtain ⟨fs, hretL, hrun, hended, hW, hsame⟩ := X18.leave (v := none) (fun _ => rfl)
  refine ⟨_, _, pre0 _ ?_, hrun, hended, _, _, rfl, ?_, ⟨_, rfl⟩, hW, hsame.mono (by decide) (by decide)⟩
  · refine XS.aloadN X0.here hx rfl (B d26_0) rfl rfl ?_
    refine st1 _ ?_
    show GO p e below T1 (mkF m 4 #[(VR a), (VR bd), (.val .null), .unset, .unset] []) _
    refine XS.aloadN X1.here hx rfl (B d26_4) rfl rfl ?_
    refine st2.trans ?_
    show GO p e below T2 (mkF m 8 #[(VR a), (VR bd), (.val .null), .unset, .unset] [(.ref tb)]) _
    refine XS.astoreN X2.here hx rfl (B d26_8) rfl rfl (l' := #[.val (.ref a), .val (.ref bd), .val .null, .val (.ref tb), .unset]) rfl ?_
    refine XS.aloadN X2.here hx rfl (B d26_9) rfl rfl ?_
    refine st4.trans ?_
    show GO p e below T4 (mkF m 13 #[(VR a), (VR bd), (.val .null), (VR tb), .unset] [(.int (Int32.ofNat (List.length cs)))]) _
    refine XS.istore X4.here hx rfl (B d26_13) rfl (l' := #[.val (.ref a), .val (.ref bd), .val .null, .val (.ref tb), .val (.int (Int32.ofNat (List.length cs)))]) rfl ?_
    refine XS.aloadN X4.here hx rfl (B d26_15) rfl rfl ?_
    refine st6.trans ?_
    show GO p e below T6 (mkF m 19 #[(VR a), (VR bd), (.val .null), (VR tb), (VI (Int32.ofNat (List.length cs)))] [(.int 1)]) _
    refine XS.ifNo X6.here hx rfl (B d26_19) rfl ((if0 _ _).trans (feq (by decide : ¬ ((1 : Int32) = (0 : Int32)))).1) ?_
    show GO p e below T6 (mkF m 22 #[(VR a), (VR bd), (.val .null), (VR tb), (VI (Int32.ofNat (List.length cs)))] []) _
    refine XS.aloadN X6.here hx rfl (B d26_22) rfl rfl ?_
    refine XS.iconst X6.here hx rfl (B d26_23) ?_
    refine st8 _ ?_
    show GO p e below T8 (mkF m 27 #[(VR a), (VR bd), (.val .null), (VR tb), (VI (Int32.ofNat (List.length cs)))] []) _
    refine XS.aloadN X8.here hx rfl (B d26_27) rfl rfl ?_
    refine XS.aloadN X8.here hx rfl (B d26_28) rfl rfl ?_
    refine XS.iconst X8.here hx rfl (B d26_29) ?_
    refine XS.iload X8.here hx rfl (B d26_30) rfl ?_
    refine st13 _ ?_
    show GO p e below T13 (mkF m 35 #[(VR a), (VR bd), (.val .null), (VR tb), (VI (Int32.ofNat (List.length cs)))] [(.ref nb13), (.ref a)]) _
    refine st18 _ ?_
    show GO p e below T18 (mkF m 38 #[(VR a), (VR bd), (.val .null), (VR tb), (VI (Int32.ofNat (List.length cs)))] []) _
    refine XS.goto X18.here hx rfl (pc0 := 38) (pc' := 97) rfl (B d26_38) (by decide) (by decide) ?_
    exact X18.returnOut hx Bd.returns (B d26_97) hretL
  · show Q_rmst Z a bd tb kb cp cs G1 h0 n0 _ T18.heap _
    rw [e18]
    exact ⟨rfl, N19, K19, f20, f21, hsp, by omega, _, _, Fw18, (by have q := f22; rw [List.take_of_length_le (by rw [own_bl]; exact Nat.le_refl _)] at q; exact q)⟩
theorem d27_0 : decode jdk_42_method_53_code 0 = .ok (.aload_n 0, 1) := by decide +kernel
theorem d27_1 : decode jdk_42_method_53_code 1 = .ok (.aload_n 1, 1) := by decide +kernel
theorem d27_2 : decode jdk_42_method_53_code 2 = .ok (.aconst_null, 1) := by decide +kernel
theorem d27_3 : decode jdk_42_method_53_code 3 = .ok (.invokespecial 489, 3) := by decide +kernel
theorem d27_6 : decode jdk_42_method_53_code 6 = .ok (.return_, 1) := by decide +kernel
def Q_rmsu (Z : State) (a : Addr) (bd : Addr) (tb : Addr) (kb : ClassId) (cp : Nat) (cs : List Int32) (G1 : Int32) (h0 : Heap) (n0 : Nat) (v : Option Value) (h : Heap) (L : List Loc) : Prop := v = none ∧ Fr n0 L ∧ Keep h0 h [a] ∧ StrP Z h a cs
theorem ef_rmsu (m : MethodId) (a : Addr) (bd : Addr) : entryFrame m #[(.ref a), (.ref bd)] 2 = mkF m 0 #[.val (.ref a), .val (.ref bd)] [] := by first | (simp [entryFrame, mkF, argsToLocals, Value.category]; done) | rfl
set_option maxRecDepth 65536 in
set_option maxHeartbeats 40000000 in
theorem rmsu (l : Launch) (Z : State) (a0 : Array Value) (hw : HW a0 Z) (ws : List Jvm.Cond) (a : Addr) (bd : Addr) (tb : Addr) (kb : ClassId) (cp : Nat) (cs : List Int32) (G1 : Int32) (h0 : Heap) (n0 : Nat) (O0 : Old Z n0 h0) (O2 : Sta Z Z.heap "java/lang/String" "COMPACT_STRINGS" "Z" (.int G1)) (P5 : ¬ (G1 = (0 : Int32))) (Ea : Exa Z h0 a "java/lang/String") (Fv : Fld Z h0 a "java/lang/String" "value" "[B" .null) (Fc : Fld Z h0 a "java/lang/String" "coder" "B" (.int (0 : Int32))) (ga : n0 ≤ a) (Eb : Exa Z h0 bd "java/lang/StringBuilder") (Fbv : Fld Z h0 bd "java/lang/AbstractStringBuilder" "value" "[B" (.ref tb)) (Fbc : Fld Z h0 bd "java/lang/AbstractStringBuilder" "coder" "B" (.int (0 : Int32))) (Fbn : Fld Z h0 bd "java/lang/AbstractStringBuilder" "count" "I" (.int (Int32.ofNat (List.length cs)))) (At : Arv Z h0 tb kb .byte (Int32.ofNat cp) ((List.map (fun c => c.toInt8.toInt32) cs).map Value.int) (.int (0 : Int32))) (hsp : ∀ c ∈ cs, ¬ c < 0 ∧ ¬ (255 : Int32) < c) (hlt : List.length cs < cp) (hl : List.length cs ≤ 65) (hcp : cp ≤ 1000) :
    MetFree l my28 (head1 (Jvm.Cond.code my28 jdk_42_method_53_code 2 none :: ws) ({ frames := 4, cells := 1, slots := 65, locals := 107 } : Room)) (fun aa U => aa = #[(.ref a), (.ref bd)] ∧ Z.Warmed39 U.vm ∧ U.heap = h0) (fun _ _ _ _ _ => True) (fun _ U o U' => ∃ v L, o = .returned v ∧ Q_rmsu Z a bd tb kb cp cs G1 h0 n0 v U'.heap L ∧ FrameEnd U o U' L ({ frames := 4, cells := 1, slots := 65, locals := 107 } : Room).cells ({ frames := 4, cells := 1, slots := 65, locals := 107 } : Room).slots) := by
  refine MetFree.of_bodySF (plainFor_of_name pn0) hisR ?_
  intro p e s m args below meth c s₁ Bd hml0 hP hK
  obtain ⟨rfl, hZ, hh⟩ := hP
  have hx := Bd.exec
  have hby := Bd.bytes
  have B := fun {pc : Nat} {r} (h : decode jdk_42_method_53_code pc = r) => hb hby h
  have hml : c.maxLocals = 2 := hml0
  have hown : s.vm.findClass "java/lang/String" = some m.cls := findClass_of_methodNamed Bd.named
  have hnm := (name_of_methodNamed Bd.named Bd.method).1
  have X0 : Stand p l e ({ frames := 4, cells := 1, slots := 65, locals := 107 } : Room) s m #[(.ref a), (.ref bd)] below meth c s₁ [] 0 0 := Stand.of_body Bd
  have e0 : s₁.heap = h0 := by rw [← hh, Bd.state]; rfl
  have N0 := Fr.nil n0
  have K0 : Keep h0 h0 [a] := Keep.refl _ _
  have pre0 : ∀ tgt, Steps p.tables e below (s₁.setTop (mkF m 0 #[.val (.ref a), .val (.ref bd)] [])) tgt → Steps p.tables e below (s₁.setTop (entryFrame m #[(.ref a), (.ref bd)] 2)) tgt := fun tgt kgo => castTop (ef_rmsu m a bd) kgo
  have nab : a ≠ bd := Exa.ne Ea Eb (by decide)
  have nat : a ≠ tb := Exa.neArv Ea At (ow13 hw)
  obtain ⟨_, _, ⟨T1, L1, k1, n1⟩, -, X1, ⟨Lc1, hQ1, l1, y1, z1⟩, st1⟩ := X0.specialBack hx (y := my27) rfl hown (mvT hZ (ow123 hw)) (mvT hZ (ow124 hw)) (mvT hZ (ow125 hw)) (by decide) (backOf (W := 0) (rmst l Z a0 hw [] a bd tb kb cp cs G1 h0 n0 O0 O2 P5 Ea Fv Fc ga Eb Fbv Fbc Fbn At hsp hlt hl hcp) hZ (ow125 hw) (ow14 hw) (by decide) (by decide)) (g := (mkF m 3 #[(VR a), (VR bd)] [.null, (.ref bd), (.ref a)])) rfl (by rw [hml]; rfl) (Steps.refl _) (a := a) (argsL := [(.ref bd), .null]) (rest := []) (lenOf pd17 rfl) rfl (w0 rfl rfl) (B d27_3) (fun _ _ => ⟨rfl, e0, (by decide : 0 + 1 ≤ _), (by decide : 0 + 65 ≤ _)⟩)
  dsimp only [Pt.U, Pt.locs, Pt.cells, Pt.slots] at X1 l1 y1 z1 st1 hQ1
  rw [l1, y1, z1] at X1
  obtain ⟨rfl, Nq1, kp1, Sp1⟩ := hQ1
  have N2 := Fr.app N0 Nq1
  have Ol3 := O0.keep kp1 (allS ga all0)
  have K3 := K0.trans kp1 (allS (Or.inl (List.mem_of_getElem? (i := 0) rfl)) all0)
  obtain ⟨fs, hretL, hrun, hended, hW, hsame⟩ := X1.leave (v := none) (fun _ => rfl)
  refine ⟨_, _, pre0 _ ?_, hrun, hended, _, _, rfl, ?_, ⟨_, rfl⟩, hW, hsame.mono (by decide) (by decide)⟩
  · refine XS.aloadN X0.here hx rfl (B d27_0) rfl rfl ?_
    refine XS.aloadN X0.here hx rfl (B d27_1) rfl rfl ?_
    refine XS.aconstNull X0.here hx rfl (B d27_2) ?_
    refine st1.trans ?_
    show GO p e below T1 (mkF m 6 #[(VR a), (VR bd)] []) _
    exact X1.returnOut hx Bd.returns (B d27_6) hretL
  · show Q_rmsu Z a bd tb kb cp cs G1 h0 n0 _ T1.heap _
    exact ⟨rfl, N2, K3, Sp1⟩
theorem d28_0 : decode jdk_67_method_42_code 0 = .ok (.new 18, 3) := by decide +kernel
theorem d28_3 : decode jdk_67_method_42_code 3 = .ok (.dup, 1) := by decide +kernel
theorem d28_4 : decode jdk_67_method_42_code 4 = .ok (.aload_n 0, 1) := by decide +kernel
theorem d28_5 : decode jdk_67_method_42_code 5 = .ok (.invokespecial 137, 3) := by decide +kernel
theorem d28_8 : decode jdk_67_method_42_code 8 = .ok (.areturn, 1) := by decide +kernel
def Q_rmts (Z : State) (bd : Addr) (tb : Addr) (kb : ClassId) (cp : Nat) (cs : List Int32) (G1 : Int32) (h0 : Heap) (n0 : Nat) (v : Option Value) (h : Heap) (L : List Loc) : Prop := ∃ b : Addr, v = some (.ref b) ∧ Fr n0 L ∧ Keep h0 h [] ∧ n0 ≤ b ∧ StrP Z h b cs
theorem ef_rmts (m : MethodId) (bd : Addr) : entryFrame m #[(.ref bd)] 1 = mkF m 0 #[.val (.ref bd)] [] := by first | (simp [entryFrame, mkF, argsToLocals, Value.category]; done) | rfl
set_option maxRecDepth 65536 in
set_option maxHeartbeats 40000000 in
theorem rmts (l : Launch) (Z : State) (a0 : Array Value) (hw : HW a0 Z) (ws : List Jvm.Cond) (bd : Addr) (tb : Addr) (kb : ClassId) (cp : Nat) (cs : List Int32) (G1 : Int32) (h0 : Heap) (n0 : Nat) (O0 : Old Z n0 h0) (O2 : Sta Z Z.heap "java/lang/String" "COMPACT_STRINGS" "Z" (.int G1)) (P5 : ¬ (G1 = (0 : Int32))) (Eb : Exa Z h0 bd "java/lang/StringBuilder") (Fbv : Fld Z h0 bd "java/lang/AbstractStringBuilder" "value" "[B" (.ref tb)) (Fbc : Fld Z h0 bd "java/lang/AbstractStringBuilder" "coder" "B" (.int (0 : Int32))) (Fbn : Fld Z h0 bd "java/lang/AbstractStringBuilder" "count" "I" (.int (Int32.ofNat (List.length cs)))) (At : Arv Z h0 tb kb .byte (Int32.ofNat cp) ((List.map (fun c => c.toInt8.toInt32) cs).map Value.int) (.int (0 : Int32))) (hsp : ∀ c ∈ cs, ¬ c < 0 ∧ ¬ (255 : Int32) < c) (hlt : List.length cs < cp) (hl : List.length cs ≤ 65) (hcp : cp ≤ 1000) :
    MetFree l my29 (head1 (Jvm.Cond.code my29 jdk_67_method_42_code 1 (some (.object "java/lang/String")) :: ws) ({ frames := 5, cells := 2, slots := 69, locals := 121 } : Room)) (fun aa U => aa = #[(.ref bd)] ∧ Z.Warmed39 U.vm ∧ U.heap = h0) (fun _ _ _ _ _ => True) (fun _ U o U' => ∃ v L, o = .returned v ∧ Q_rmts Z bd tb kb cp cs G1 h0 n0 v U'.heap L ∧ FrameEnd U o U' L ({ frames := 5, cells := 2, slots := 69, locals := 121 } : Room).cells ({ frames := 5, cells := 2, slots := 69, locals := 121 } : Room).slots) := by
  refine MetFree.of_bodySF (plainFor_of_name pn5) hisR ?_
  intro p e s m args below meth c s₁ Bd hml0 hP hK
  obtain ⟨rfl, hZ, hh⟩ := hP
  have hx := Bd.exec
  have hby := Bd.bytes
  have B := fun {pc : Nat} {r} (h : decode jdk_67_method_42_code pc = r) => hb hby h
  have hml : c.maxLocals = 1 := hml0
  have hown : s.vm.findClass "java/lang/StringBuilder" = some m.cls := findClass_of_methodNamed Bd.named
  have hnm := (name_of_methodNamed Bd.named Bd.method).1
  have X0 : Stand p l e ({ frames := 5, cells := 2, slots := 69, locals := 121 } : Room) s m #[(.ref bd)] below meth c s₁ [] 0 0 := Stand.of_body Bd
  have e0 : s₁.heap = h0 := by rw [← hh, Bd.state]; rfl
  have N0 := Fr.nil n0
  have K0 : Keep h0 h0 [] := Keep.refl _ _
  have pre0 : ∀ tgt, Steps p.tables e below (s₁.setTop (mkF m 0 #[.val (.ref bd)] [])) tgt → Steps p.tables e below (s₁.setTop (entryFrame m #[(.ref bd)] 1)) tgt := fun tgt kgo => castTop (ef_rmts m bd) kgo
  obtain ⟨T1, h1, X1, e1, E1, A1, D1, U1, st1⟩ := newO X0 hx hZ hown (ow119 hw) (ow13 hw) (ow14 hw) e0 (g := (mkF m 0 #[(VR bd)] [])) rfl (B d28_0) (by decide) (by decide)
  obtain ⟨b1, g1⟩ : ∃ z, z = h0.size := ⟨_, rfl⟩
  rw [← g1] at A1 D1 U1 st1
  have gn1 : n0 ≤ b1 := Nat.le_trans (own_sz O0) (Nat.le_of_eq g1.symm)
  have sz1 : h0.size ≤ b1 := Nat.le_trans K0.1 (Nat.le_of_eq g1.symm)
  have nebd_1 : bd ≠ b1 := Nat.ne_of_lt (Nat.lt_of_lt_of_le Eb.lt (Nat.le_of_eq g1.symm))
  have netb_1 : tb ≠ b1 := Nat.ne_of_lt (Nat.lt_of_lt_of_le At.lt (Nat.le_of_eq g1.symm))
  have Ol2 := O0.ext E1
  have K2 := K0.ext E1
  have Fcoder_1 : Fld Z h1 b1 "java/lang/String" "coder" "B" (.int (0 : Int32)) := D1 (Or.inr (ow38 hw)) (ty := .byte) (by decide)
  have Fvalue_1 : Fld Z h1 b1 "java/lang/String" "value" "[B" .null := D1 (Or.inr (ow40 hw)) (ty := (.array .byte)) (by decide)
  have f3 := (Eb.ext E1)
  have f4 := (Fbv.ext E1)
  have f5 := (Fbc.ext E1)
  have f6 := (Fbn.ext E1)
  have f7 := (At.ext E1)
  obtain ⟨_, _, ⟨T8, L8, k8, n8⟩, -, X8, ⟨Lc8, hQ8, l8, y8, z8⟩, st8⟩ := X1.specialBack hx (y := my28) rfl hown (mvT hZ (ow120 hw)) (mvT hZ (ow121 hw)) (mvT hZ (ow122 hw)) (by decide) (backOf (W := 1) (rmsu l Z a0 hw [] b1 bd tb kb cp cs G1 h1 n0 Ol2 O2 P5 A1 Fvalue_1 Fcoder_1 gn1 f3 f4 f5 f6 f7 hsp hlt hl hcp) hZ (ow122 hw) (ow14 hw) (by decide) (by decide)) (g := (mkF m 5 #[(VR bd)] [(.ref bd), (.ref b1), (.ref b1)])) rfl (by rw [hml]; rfl) (Steps.refl _) (a := b1) (argsL := [(.ref bd)]) (rest := [(.ref b1)]) (lenOf pd18 rfl) rfl (w0 rfl rfl) (B d28_5) (fun _ _ => ⟨rfl, e1, (by decide : 1 + 1 ≤ _), (by decide : 4 + 65 ≤ _)⟩)
  dsimp only [Pt.U, Pt.locs, Pt.cells, Pt.slots] at X8 l8 y8 z8 st8 hQ8
  rw [l8, y8, z8] at X8
  obtain ⟨rfl, Nq8, kp8, Sp8⟩ := hQ8
  have N9 := Fr.app N0 Nq8
  have Ol10 := Ol2.keep kp8 (allS gn1 all0)
  have K10 := K2.trans kp8 (allS (Or.inr sz1) all0)
  obtain ⟨fs, hretL, hrun, hended, hW, hsame⟩ := X8.leave (v := some (.ref b1)) (fun h => by rw [Bd.returns] at h; cases h)
  refine ⟨_, _, pre0 _ ?_, hrun, hended, _, _, rfl, ?_, ⟨_, rfl⟩, hW, hsame.mono (by decide) (by decide)⟩
  · refine st1 _ ?_
    show GO p e below T1 (mkF m 3 #[(VR bd)] [(.ref b1)]) _
    refine XS.dup X1.here hx rfl (B d28_3) rfl rfl ?_
    refine XS.aloadN X1.here hx rfl (B d28_4) rfl rfl ?_
    refine st8.trans ?_
    show GO p e below T8 (mkF m 8 #[(VR bd)] [(.ref b1)]) _
    exact retOut X8 hx Bd.returns rfl (Or.inr (Or.inr (Or.inr (Or.inr ⟨rfl, rfl, rfl⟩)))) (B d28_8) hretL
  · show Q_rmts Z bd tb kb cp cs G1 h0 n0 _ T8.heap _
    exact ⟨_, rfl, N9, K10, gn1, Sp8⟩
theorem own_nc {x : Int32} (h : ¬ x < 0 ∧ ¬ (255 : Int32) < x) : nar .char x = x := by
  obtain ⟨h1, h2⟩ := h
  have t : ∀ k : Fin 256, nar .char (Int32.ofNat k.val) = Int32.ofNat k.val := by decide +kernel
  rw [Int32.lt_iff_toInt_lt] at h1 h2
  have e1 : (0 : Int32).toInt = 0 := rfl
  have e2 : (255 : Int32).toInt = 255 := rfl
  have e : x = Int32.ofNat x.toInt.toNat := Int32.toInt_inj.mp (by rw [Int32.toInt_ofNat_small (by omega)]; omega)
  rw [e]
  exact t ⟨x.toInt.toNat, by omega⟩
def Byt (cs : List Int32) : Prop := ∀ c ∈ cs, ¬ c < 0 ∧ ¬ (255 : Int32) < c
theorem own_a255 (x : Int32) : ¬ (x &&& (255 : Int32)) < 0 ∧ ¬ (255 : Int32) < (x &&& (255 : Int32)) := by
  rw [← own_c255]; exact and255_chars x
theorem own_setb {cs : List Int32} {x : Int32} (h : Byt cs) (j : Nat) (hx : ¬ x < 0 ∧ ¬ (255 : Int32) < x) : Byt (cs.set j x) := fun c hc => by
  rcases List.mem_or_eq_of_mem_set hc with q | q
  · exact h c q
  · rw [q]; exact hx
theorem own_rep0 (n : Nat) : Byt (List.replicate n (0 : Int32)) := fun c hc => by
  rw [List.eq_of_mem_replicate hc]; decide
theorem own_gdb {cs : List Int32} (h : Byt cs) (j : Nat) : ¬ (List.getD cs j 0) < 0 ∧ ¬ (255 : Int32) < (List.getD cs j 0) := by
  rw [List.getD_eq_getElem?_getD]
  cases q : cs[j]? with
  | none => decide
  | some x => exact h x (List.mem_of_getElem? q)
theorem own_spa {cs ds : List Int32} (h1 : Byt cs) (h2 : Byt ds) : Byt (cs ++ ds) := fun c hc => (List.mem_append.mp hc).elim (h1 c) (h2 c)
theorem own_nil : Byt [] := fun _ q => nomatch q
theorem own_tk60 {cs : List Int32} (h : Byt cs) : Byt (cs.take 60) := fun c hc => h c (List.mem_of_mem_take hc)
theorem own_sp34 : Byt [(34 : Int32)] := fun c hc => by rw [List.mem_singleton.mp hc]; decide
theorem own_sp46 : Byt [(46 : Int32), (46 : Int32), (46 : Int32)] := fun c hc => by
  simp only [List.mem_cons, List.not_mem_nil, or_false, or_self] at hc
  rw [hc]; decide
theorem own_mg {cs : List Int32} {ix : Int32} {j : Nat} (h : ix = Int32.ofNat j) (hj : j ≤ 4000) : (List.map Value.int cs).getD ix.toNatClampNeg (.int (0 : Int32)) = .int (List.getD cs j 0) := by
  rw [h, on_cl hj, List.getD_eq_getElem?_getD, List.getElem?_map, List.getD_eq_getElem?_getD]
  cases cs[j]? <;> rfl
def qs (cs : List Int32) : List Int32 := 34 :: (cs ++ [34])
def ql (cs : List Int32) : List Int32 := 34 :: ((cs.take 60 ++ [46, 46, 46]) ++ [34])
theorem d29_0 : decode jdk_42_method_151_code 0 = .ok (.aload_n 0, 1) := by decide +kernel
theorem d29_1 : decode jdk_42_method_151_code 1 = .ok (.invokespecial 1, 3) := by decide +kernel
theorem d29_4 : decode jdk_42_method_151_code 4 = .ok (.aload_n 0, 1) := by decide +kernel
theorem d29_5 : decode jdk_42_method_151_code 5 = .ok (.aload_n 1, 1) := by decide +kernel
theorem d29_6 : decode jdk_42_method_151_code 6 = .ok (.putfield 9, 3) := by decide +kernel
theorem d29_9 : decode jdk_42_method_151_code 9 = .ok (.aload_n 0, 1) := by decide +kernel
theorem d29_10 : decode jdk_42_method_151_code 10 = .ok (.iload_n 2, 1) := by decide +kernel
theorem d29_11 : decode jdk_42_method_151_code 11 = .ok (.putfield 15, 3) := by decide +kernel
theorem d29_14 : decode jdk_42_method_151_code 14 = .ok (.return_, 1) := by decide +kernel
def Q_rmbb (Z : State) (a : Addr) (tb : Addr) (h0 : Heap) (n0 : Nat) (v : Option Value) (h : Heap) (L : List Loc) : Prop := v = none ∧ Fr n0 L ∧ Keep h0 h [a] ∧ Exa Z h a "java/lang/String" ∧ Fld Z h a "java/lang/String" "value" "[B" (.ref tb) ∧ Fld Z h a "java/lang/String" "coder" "B" (.int 0)
theorem ef_rmbb (m : MethodId) (a : Addr) (tb : Addr) : entryFrame m #[(.ref a), (.ref tb), (.int (0 : Int32))] 3 = mkF m 0 #[.val (.ref a), .val (.ref tb), .val (.int (0 : Int32))] [] := by first | (simp [entryFrame, mkF, argsToLocals, Value.category]; done) | rfl
set_option maxRecDepth 65536 in
set_option maxHeartbeats 40000000 in
theorem rmbb (l : Launch) (Z : State) (a0 : Array Value) (hw : HW a0 Z) (ws : List Jvm.Cond) (a : Addr) (tb : Addr) (h0 : Heap) (n0 : Nat) (O0 : Old Z n0 h0) (Ea : Exa Z h0 a "java/lang/String") (Fv : Fld Z h0 a "java/lang/String" "value" "[B" .null) (Fc : Fld Z h0 a "java/lang/String" "coder" "B" (.int (0 : Int32))) (ga : n0 ≤ a) :
    MetFree l my30 (head1 (Jvm.Cond.code my30 jdk_42_method_151_code 3 none :: ws) ({ frames := 1, cells := 0, slots := 0, locals := 12 } : Room)) (fun aa U => aa = #[(.ref a), (.ref tb), (.int (0 : Int32))] ∧ Z.Warmed39 U.vm ∧ U.heap = h0) (fun _ _ _ _ _ => True) (fun _ U o U' => ∃ v L, o = .returned v ∧ Q_rmbb Z a tb h0 n0 v U'.heap L ∧ FrameEnd U o U' L ({ frames := 1, cells := 0, slots := 0, locals := 12 } : Room).cells ({ frames := 1, cells := 0, slots := 0, locals := 12 } : Room).slots) := by
  refine MetFree.of_bodySF (plainFor_of_name pn0) hisR ?_
  intro p e s m args below meth c s₁ Bd hml0 hP hK
  obtain ⟨rfl, hZ, hh⟩ := hP
  have hx := Bd.exec
  have hby := Bd.bytes
  have B := fun {pc : Nat} {r} (h : decode jdk_42_method_151_code pc = r) => hb hby h
  have hml : c.maxLocals = 3 := hml0
  have hown : s.vm.findClass "java/lang/String" = some m.cls := findClass_of_methodNamed Bd.named
  have hnm := (name_of_methodNamed Bd.named Bd.method).1
  have X0 : Stand p l e ({ frames := 1, cells := 0, slots := 0, locals := 12 } : Room) s m #[(.ref a), (.ref tb), (.int (0 : Int32))] below meth c s₁ [] 0 0 := Stand.of_body Bd
  have e0 : s₁.heap = h0 := by rw [← hh, Bd.state]; rfl
  have N0 := Fr.nil n0
  have K0 : Keep h0 h0 [a] := Keep.refl _ _
  have pre0 : ∀ tgt, Steps p.tables e below (s₁.setTop (mkF m 0 #[.val (.ref a), .val (.ref tb), .val (.int (0 : Int32))] [])) tgt → Steps p.tables e below (s₁.setTop (entryFrame m #[(.ref a), (.ref tb), (.int (0 : Int32))] 3)) tgt := fun tgt kgo => castTop (ef_rmbb m a tb) kgo
  obtain ⟨T1, X1, e1, st1⟩ := initO X0 hx hZ hown (ow22 hw) (ow23 hw) (ow24 hw) e0 (g := (mkF m 1 #[(VR a), (VR tb), (VI 0)] [(.ref a)])) rfl (by rw [hml]; rfl) rfl (B d29_1) (by decide) (W := 0) (by show 2 * 0 + _ ≤ _; exact Nat.le_of_eq rfl) (by decide)
  obtain ⟨T2, h2, X2, e2, W2, st2⟩ := putF X1 hx hZ hown (host := "") (Or.inl (ow39 hw)) Via.refl e1 Fv Ea (Or.inr ⟨(ow40 hw), rfl, hnm⟩) (ow13 hw) (ty := (.array .byte)) (by decide) rfl rfl (g := (mkF m 6 #[(VR a), (VR tb), (VI 0)] [(.ref tb), (.ref a)])) rfl rfl (B d29_6)
  have Fw2 := Fv.same W2
  have N3 := Fr.snoc X2 N0 ga
  have Ol3 := O0.wr W2 ga
  have K3 := K0.wr W2 (Or.inl (List.mem_of_getElem? (i := 0) rfl))
  have f4 := (Ea.wr W2)
  have f5 := (Fc.other W2 (Or.inr (slot_ne (Or.inr (ow38 hw)) (Or.inr (ow40 hw)) (by decide) (t := .byte) (t' := (.array .byte)) (by decide) (by decide))))
  obtain ⟨T6, h6, X6, e6, W6, st6⟩ := putFN X2 hx hZ hown (ow37 hw) Via.refl e2 f5 f4 (Or.inr ⟨(ow38 hw), rfl, hnm⟩) (ow13 hw) (ty := .byte) (v' := (.int (nar .byte (0 : Int32)))) (by decide) rfl (fits_nar_byte _) (g := (mkF m 11 #[(VR a), (VR tb), (VI 0)] [(.int 0), (.ref a)])) rfl rfl (B d29_11)
  have Fw6 := f5.same W6
  have N7 := Fr.snoc X6 N3 ga
  have Ol7 := Ol3.wr W6 ga
  have K7 := K3.wr W6 (Or.inl (List.mem_of_getElem? (i := 0) rfl))
  have f8 := (f4.wr W6)
  have f9 := (Fw2.other W6 (Or.inr (slot_ne (Or.inr (ow40 hw)) (Or.inr (ow38 hw)) (by decide) (t := (.array .byte)) (t' := .byte) (by decide) (by decide))))
  obtain ⟨fs, hretL, hrun, hended, hW, hsame⟩ := X6.leave (v := none) (fun _ => rfl)
  refine ⟨_, _, pre0 _ ?_, hrun, hended, _, _, rfl, ?_, ⟨_, rfl⟩, hW, hsame.mono (by decide) (by decide)⟩
  · refine XS.aloadN X0.here hx rfl (B d29_0) rfl rfl ?_
    refine st1 _ ?_
    show GO p e below T1 (mkF m 4 #[(VR a), (VR tb), (VI 0)] []) _
    refine XS.aloadN X1.here hx rfl (B d29_4) rfl rfl ?_
    refine XS.aloadN X1.here hx rfl (B d29_5) rfl rfl ?_
    refine st2 _ ?_
    show GO p e below T2 (mkF m 9 #[(VR a), (VR tb), (VI 0)] []) _
    refine XS.aloadN X2.here hx rfl (B d29_9) rfl rfl ?_
    refine XS.iloadN X2.here hx rfl (B d29_10) rfl ?_
    refine st6 _ ?_
    show GO p e below T6 (mkF m 14 #[(VR a), (VR tb), (VI 0)] []) _
    exact X6.returnOut hx Bd.returns (B d29_14) hretL
  · show Q_rmbb Z a tb h0 n0 _ T6.heap _
    rw [e6]
    exact ⟨rfl, N7, K7, f8, f9, Fw6⟩
theorem d30_0 : decode jdk_43_method_47_code 0 = .ok (.iload_n 2, 1) := by decide +kernel
theorem d30_1 : decode jdk_43_method_47_code 1 = .ok (.ifCond .ne 6, 3) := by decide +kernel
theorem d30_7 : decode jdk_43_method_47_code 7 = .ok (.new 1, 3) := by decide +kernel
theorem d30_10 : decode jdk_43_method_47_code 10 = .ok (.dup, 1) := by decide +kernel
theorem d30_11 : decode jdk_43_method_47_code 11 = .ok (.aload_n 0, 1) := by decide +kernel
theorem d30_12 : decode jdk_43_method_47_code 12 = .ok (.iload_n 1, 1) := by decide +kernel
theorem d30_13 : decode jdk_43_method_47_code 13 = .ok (.iload_n 1, 1) := by decide +kernel
theorem d30_14 : decode jdk_43_method_47_code 14 = .ok (.iload_n 2, 1) := by decide +kernel
theorem d30_15 : decode jdk_43_method_47_code 15 = .ok (.iadd, 1) := by decide +kernel
theorem d30_16 : decode jdk_43_method_47_code 16 = .ok (.invokestatic 232, 3) := by decide +kernel
theorem d30_19 : decode jdk_43_method_47_code 19 = .ok (.iconst 0, 1) := by decide +kernel
theorem d30_20 : decode jdk_43_method_47_code 20 = .ok (.invokespecial 112, 3) := by decide +kernel
theorem d30_23 : decode jdk_43_method_47_code 23 = .ok (.areturn, 1) := by decide +kernel
def Q_rmns (Z : State) (tb : Addr) (kb : ClassId) (cs : List Int32) (h0 : Heap) (n0 : Nat) (v : Option Value) (h : Heap) (L : List Loc) : Prop := ∃ b : Addr, v = some (.ref b) ∧ Fr n0 L ∧ Keep h0 h [] ∧ StrP Z h b (cs.take 60)
theorem ef_rmns (m : MethodId) (tb : Addr) : entryFrame m #[(.ref tb), (.int (0 : Int32)), (.int (60 : Int32))] 3 = mkF m 0 #[.val (.ref tb), .val (.int (0 : Int32)), .val (.int (60 : Int32))] [] := by first | (simp [entryFrame, mkF, argsToLocals, Value.category]; done) | rfl
set_option maxRecDepth 65536 in
set_option maxHeartbeats 40000000 in
theorem rmns (l : Launch) (Z : State) (a0 : Array Value) (hw : HW a0 Z) (ws : List Jvm.Cond) (tb : Addr) (kb : ClassId) (cs : List Int32) (h0 : Heap) (n0 : Nat) (O0 : Old Z n0 h0) (At : Arv Z h0 tb kb .byte (Int32.ofNat (List.length cs)) ((List.map (fun c => c.toInt8.toInt32) cs).map Value.int) (.int (0 : Int32))) (hsp : Byt cs) (h60 : 60 < List.length cs) (h65 : List.length cs ≤ 65) :
    MetFree l my31 (head1 (Jvm.Cond.code my31 jdk_43_method_47_code 3 (some (.object "java/lang/String")) :: ws) ({ frames := 3, cells := 2, slots := 69, locals := 92 } : Room)) (fun aa U => aa = #[(.ref tb), (.int (0 : Int32)), (.int (60 : Int32))] ∧ Z.Warmed39 U.vm ∧ U.heap = h0) (fun _ _ _ _ _ => True) (fun _ U o U' => ∃ v L, o = .returned v ∧ Q_rmns Z tb kb cs h0 n0 v U'.heap L ∧ FrameEnd U o U' L ({ frames := 3, cells := 2, slots := 69, locals := 92 } : Room).cells ({ frames := 3, cells := 2, slots := 69, locals := 92 } : Room).slots) := by
  refine MetFree.of_bodySF (plainFor_of_name pn6) hisR ?_
  intro p e s m args below meth c s₁ Bd hml0 hP hK
  obtain ⟨rfl, hZ, hh⟩ := hP
  have hx := Bd.exec
  have hby := Bd.bytes
  have B := fun {pc : Nat} {r} (h : decode jdk_43_method_47_code pc = r) => hb hby h
  have hml : c.maxLocals = 3 := hml0
  have hown : s.vm.findClass "java/lang/StringLatin1" = some m.cls := findClass_of_methodNamed Bd.named
  have hnm := (name_of_methodNamed Bd.named Bd.method).1
  have X0 : Stand p l e ({ frames := 3, cells := 2, slots := 69, locals := 92 } : Room) s m #[(.ref tb), (.int (0 : Int32)), (.int (60 : Int32))] below meth c s₁ [] 0 0 := Stand.of_body Bd
  have e0 : s₁.heap = h0 := by rw [← hh, Bd.state]; rfl
  have N0 := Fr.nil n0
  have K0 : Keep h0 h0 [] := Keep.refl _ _
  have pre0 : ∀ tgt, Steps p.tables e below (s₁.setTop (mkF m 0 #[.val (.ref tb), .val (.int (0 : Int32)), .val (.int (60 : Int32))] [])) tgt → Steps p.tables e below (s₁.setTop (entryFrame m #[(.ref tb), (.int (0 : Int32)), (.int (60 : Int32))] 3)) tgt := fun tgt kgo => castTop (ef_rmns m tb) kgo
  obtain ⟨T1, h1, X1, e1, E1, A1, D1, U1, st1⟩ := newO X0 hx hZ hown (ow205 hw) (ow13 hw) (ow14 hw) e0 (g := (mkF m 7 #[(VR tb), (VI 0), (VI 60)] [])) rfl (B d30_7) (by decide) (by decide)
  obtain ⟨b1, g1⟩ : ∃ z, z = h0.size := ⟨_, rfl⟩
  rw [← g1] at A1 D1 U1 st1
  have gn1 : n0 ≤ b1 := Nat.le_trans (own_sz O0) (Nat.le_of_eq g1.symm)
  have sz1 : h0.size ≤ b1 := Nat.le_trans K0.1 (Nat.le_of_eq g1.symm)
  have netb_1 : tb ≠ b1 := Nat.ne_of_lt (Nat.lt_of_lt_of_le At.lt (Nat.le_of_eq g1.symm))
  have Ol2 := O0.ext E1
  have K2 := K0.ext E1
  have Fcoder_1 : Fld Z h1 b1 "java/lang/String" "coder" "B" (.int (0 : Int32)) := D1 (Or.inr (ow38 hw)) (ty := .byte) (by decide)
  have Fvalue_1 : Fld Z h1 b1 "java/lang/String" "value" "[B" .null := D1 (Or.inr (ow40 hw)) (ty := (.array .byte)) (by decide)
  have f3 := (At.ext E1)
  obtain ⟨_, _, ⟨T4, L4, k4, n4⟩, -, X4, ⟨Lc4, hQ4, l4, y4, z4⟩, st4⟩ := Jvm.LawKit.callS X1 hx (y := my26) hown (mvT hZ (ow206 hw)) (mvT hZ (ow145 hw)) (mvT hZ (ow146 hw)) (mvT hZ (ow147 hw)) (by decide) (backOf (W := 2) (rmcr l Z a0 hw [] tb (60 : Int32) kb ((List.map (fun c => c.toInt8.toInt32) cs).map Value.int) (List.length cs) 60 h1 n0 Ol2 f3 rfl (by rw [own_bl]; omega) h60 (by decide) (by omega)) hZ (ow147 hw) (ow146 hw) (by decide) (by decide)) (g := (mkF m 16 #[(VR tb), (VI 0), (VI 60)] [(.int 60), (.int 0), (.ref tb), (.ref b1), (.ref b1)])) rfl (by rw [hml]; rfl) (argsL := [(.ref tb), (.int 0), (.int 60)]) (rest := [(.ref b1), (.ref b1)]) (lenOf pd14 rfl) rfl (w0 rfl rfl) (B d30_16) (fun _ _ => ⟨rfl, e1, (by decide : 1 + 1 ≤ _), (by decide : 4 + 65 ≤ _)⟩)
  dsimp only [Pt.U, Pt.locs, Pt.cells, Pt.slots] at X4 l4 y4 z4 st4 hQ4
  rw [l4, y4, z4] at X4
  obtain ⟨nb4, nk4, rfl, Nq4, kp4, gb4, gs4, nA4⟩ := hQ4
  have N5 := Fr.app N0 Nq4
  have Ol6 := Ol2.keep kp4 all0
  have K6 := K2.trans kp4 all0
  have gne4_tb : tb ≠ nb4 := Nat.ne_of_lt (Nat.lt_of_lt_of_le f3.lt gs4)
  have gne4_b1 : b1 ≠ nb4 := Nat.ne_of_lt (Nat.lt_of_lt_of_le A1.lt gs4)
  have f7 := (A1.keep kp4)
  have f8 := (Fvalue_1.keep kp4 nin0)
  have f9 := (Fcoder_1.keep kp4 nin0)
  obtain ⟨_, _, ⟨T10, L10, k10, n10⟩, -, X10, ⟨Lc10, hQ10, l10, y10, z10⟩, st10⟩ := X4.specialBack hx (y := my30) rfl hown (mvT hZ (ow207 hw)) (mvT hZ (ow208 hw)) (mvT hZ (ow209 hw)) (by decide) (backOf (W := 1) (rmbb l Z a0 hw [] b1 nb4  T4.heap n0 Ol6 f7 f8 f9 gn1) hZ (ow209 hw) (ow14 hw) (by decide) (by decide)) (g := (mkF m 20 #[(VR tb), (VI 0), (VI 60)] [(.int 0), (.ref nb4), (.ref b1), (.ref b1)])) rfl (by rw [hml]; rfl) (Steps.refl _) (a := b1) (argsL := [(.ref nb4), (.int 0)]) (rest := [(.ref b1)]) (lenOf pd19 rfl) rfl (w0 rfl rfl) (B d30_20) (fun _ _ => ⟨rfl, rfl, (by decide : 2 + 0 ≤ _), (by decide : 69 + 0 ≤ _)⟩)
  dsimp only [Pt.U, Pt.locs, Pt.cells, Pt.slots] at X10 l10 y10 z10 st10 hQ10
  rw [l10, y10, z10] at X10
  obtain ⟨rfl, Nq10, kp10, sE10, sV10, sC10⟩ := hQ10
  have N11 := Fr.app N5 Nq10
  have Ol12 := Ol6.keep kp10 (allS gn1 all0)
  have K12 := K6.trans kp10 (allS (Or.inr sz1) all0)
  have f13 := (nA4.keep kp10 (ninS (Ne.symm gne4_b1) nin0))
  obtain ⟨fs, hretL, hrun, hended, hW, hsame⟩ := X10.leave (v := some (.ref b1)) (fun h => by rw [Bd.returns] at h; cases h)
  refine ⟨_, _, pre0 _ ?_, hrun, hended, _, _, rfl, ?_, ⟨_, rfl⟩, hW, hsame.mono (by decide) (by decide)⟩
  · refine XS.iloadN X0.here hx rfl (B d30_0) rfl ?_
    refine XS.ifYes X0.here hx rfl (pc0 := 1) (pc' := 7) rfl (B d30_1) rfl ((if0 _ _).trans (feq (by decide : ¬ ((60 : Int32) = (0 : Int32)))).2) (by decide) (by decide) ?_
    show GO p e below s₁ (mkF m 7 #[(VR tb), (VI 0), (VI 60)] []) _
    refine st1 _ ?_
    show GO p e below T1 (mkF m 10 #[(VR tb), (VI 0), (VI 60)] [(.ref b1)]) _
    refine XS.dup X1.here hx rfl (B d30_10) rfl rfl ?_
    refine XS.aloadN X1.here hx rfl (B d30_11) rfl rfl ?_
    refine XS.iloadN X1.here hx rfl (B d30_12) rfl ?_
    refine XS.iloadN X1.here hx rfl (B d30_13) rfl ?_
    refine XS.iloadN X1.here hx rfl (B d30_14) rfl ?_
    refine XS.iadd X1.here hx rfl (B d30_15) rfl ?_
    refine st4 _ ?_
    show GO p e below T4 (mkF m 19 #[(VR tb), (VI 0), (VI 60)] [(.ref nb4), (.ref b1), (.ref b1)]) _
    refine XS.iconst X4.here hx rfl (B d30_19) ?_
    refine st10.trans ?_
    show GO p e below T10 (mkF m 23 #[(VR tb), (VI 0), (VI 60)] [(.ref b1)]) _
    exact retOut X10 hx Bd.returns rfl (Or.inr (Or.inr (Or.inr (Or.inr ⟨rfl, rfl, rfl⟩)))) (B d30_23) hretL
  · show Q_rmns Z tb kb cs h0 n0 _ T10.heap _
    exact ⟨_, rfl, N11, K12, sE10, sC10, own_tk60 hsp, by rw [List.length_take]; omega, _, _, sV10, (by have q := f13; rw [own_bt] at q; rw [List.length_take, show min 60 (List.length cs) = 60 by omega]; exact q)⟩
theorem d31_0 : decode jdk_42_method_92_code 0 = .ok (.aload_n 0, 1) := by decide +kernel
theorem d31_1 : decode jdk_42_method_92_code 1 = .ok (.invokevirtual 505, 3) := by decide +kernel
theorem d31_4 : decode jdk_42_method_92_code 4 = .ok (.istore_n 3, 1) := by decide +kernel
theorem d31_5 : decode jdk_42_method_92_code 5 = .ok (.iload_n 1, 1) := by decide +kernel
theorem d31_6 : decode jdk_42_method_92_code 6 = .ok (.iload_n 2, 1) := by decide +kernel
theorem d31_7 : decode jdk_42_method_92_code 7 = .ok (.iload_n 3, 1) := by decide +kernel
theorem d31_8 : decode jdk_42_method_92_code 8 = .ok (.invokestatic 521, 3) := by decide +kernel
theorem d31_11 : decode jdk_42_method_92_code 11 = .ok (.iload_n 1, 1) := by decide +kernel
theorem d31_12 : decode jdk_42_method_92_code 12 = .ok (.ifCond .ne 10, 3) := by decide +kernel
theorem d31_15 : decode jdk_42_method_92_code 15 = .ok (.iload_n 2, 1) := by decide +kernel
theorem d31_16 : decode jdk_42_method_92_code 16 = .ok (.iload_n 3, 1) := by decide +kernel
theorem d31_17 : decode jdk_42_method_92_code 17 = .ok (.if_icmp .ne 5, 3) := by decide +kernel
theorem d31_22 : decode jdk_42_method_92_code 22 = .ok (.iload_n 2, 1) := by decide +kernel
theorem d31_23 : decode jdk_42_method_92_code 23 = .ok (.iload_n 1, 1) := by decide +kernel
theorem d31_24 : decode jdk_42_method_92_code 24 = .ok (.isub, 1) := by decide +kernel
theorem d31_25 : decode jdk_42_method_92_code 25 = .ok (.istore 4, 2) := by decide +kernel
theorem d31_27 : decode jdk_42_method_92_code 27 = .ok (.aload_n 0, 1) := by decide +kernel
theorem d31_28 : decode jdk_42_method_92_code 28 = .ok (.invokevirtual 492, 3) := by decide +kernel
theorem d31_31 : decode jdk_42_method_92_code 31 = .ok (.ifCond .eq 16, 3) := by decide +kernel
theorem d31_34 : decode jdk_42_method_92_code 34 = .ok (.aload_n 0, 1) := by decide +kernel
theorem d31_35 : decode jdk_42_method_92_code 35 = .ok (.getfield 9, 3) := by decide +kernel
theorem d31_38 : decode jdk_42_method_92_code 38 = .ok (.iload_n 1, 1) := by decide +kernel
theorem d31_39 : decode jdk_42_method_92_code 39 = .ok (.iload 4, 2) := by decide +kernel
theorem d31_41 : decode jdk_42_method_92_code 41 = .ok (.invokestatic 685, 3) := by decide +kernel
theorem d31_44 : decode jdk_42_method_92_code 44 = .ok (.goto 13, 3) := by decide +kernel
theorem d31_57 : decode jdk_42_method_92_code 57 = .ok (.areturn, 1) := by decide +kernel
def Q_rmsub (Z : State) (a : Addr) (cs : List Int32) (G1 : Int32) (fm : Value) (h0 : Heap) (n0 : Nat) (v : Option Value) (h : Heap) (L : List Loc) : Prop := ∃ b : Addr, v = some (.ref b) ∧ Fr n0 L ∧ Keep h0 h [] ∧ StrP Z h b (cs.take 60)
theorem ef_rmsub (m : MethodId) (a : Addr) : entryFrame m #[(.ref a), (.int (0 : Int32)), (.int (60 : Int32))] 5 = mkF m 0 #[.val (.ref a), .val (.int (0 : Int32)), .val (.int (60 : Int32)), .unset, .unset] [] := by first | (simp [entryFrame, mkF, argsToLocals, Value.category]; done) | rfl
set_option maxRecDepth 65536 in
set_option maxHeartbeats 40000000 in
theorem rmsub (l : Launch) (Z : State) (a0 : Array Value) (hw : HW a0 Z) (ws : List Jvm.Cond) (a : Addr) (cs : List Int32) (G1 : Int32) (fm : Value) (h0 : Heap) (n0 : Nat) (O0 : Old Z n0 h0) (O2 : Sta Z Z.heap "java/lang/String" "COMPACT_STRINGS" "Z" (.int G1)) (P5 : ¬ (G1 = (0 : Int32))) (O4 : Sta Z Z.heap "jdk/internal/util/Preconditions" "SIOOBE_FORMATTER" "Ljava/util/function/BiFunction;" fm) (rf : fm.isRef = true) (Sa : StrP Z h0 a cs) (h60 : 60 < List.length cs) (h65 : List.length cs ≤ 65) :
    MetFree l my32 (head1 (Jvm.Cond.code my32 jdk_42_method_92_code 5 (some (.object "java/lang/String")) :: ws) ({ frames := 4, cells := 2, slots := 69, locals := 106 } : Room)) (fun aa U => aa = #[(.ref a), (.int (0 : Int32)), (.int (60 : Int32))] ∧ Z.Warmed39 U.vm ∧ U.heap = h0) (fun _ _ _ _ _ => True) (fun _ U o U' => ∃ v L, o = .returned v ∧ Q_rmsub Z a cs G1 fm h0 n0 v U'.heap L ∧ FrameEnd U o U' L ({ frames := 4, cells := 2, slots := 69, locals := 106 } : Room).cells ({ frames := 4, cells := 2, slots := 69, locals := 106 } : Room).slots) := by
  refine MetFree.of_bodySF (plainFor_of_name pn0) hisR ?_
  intro p e s m args below meth c s₁ Bd hml0 hP hK
  obtain ⟨rfl, hZ, hh⟩ := hP
  have hx := Bd.exec
  have hby := Bd.bytes
  have B := fun {pc : Nat} {r} (h : decode jdk_42_method_92_code pc = r) => hb hby h
  have hml : c.maxLocals = 5 := hml0
  have hown : s.vm.findClass "java/lang/String" = some m.cls := findClass_of_methodNamed Bd.named
  have hnm := (name_of_methodNamed Bd.named Bd.method).1
  have X0 : Stand p l e ({ frames := 4, cells := 2, slots := 69, locals := 106 } : Room) s m #[(.ref a), (.int (0 : Int32)), (.int (60 : Int32))] below meth c s₁ [] 0 0 := Stand.of_body Bd
  have e0 : s₁.heap = h0 := by rw [← hh, Bd.state]; rfl
  have N0 := Fr.nil n0
  have K0 : Keep h0 h0 [] := Keep.refl _ _
  have pre0 : ∀ tgt, Steps p.tables e below (s₁.setTop (mkF m 0 #[.val (.ref a), .val (.int (0 : Int32)), .val (.int (60 : Int32)), .unset, .unset] [])) tgt → Steps p.tables e below (s₁.setTop (entryFrame m #[(.ref a), (.int (0 : Int32)), (.int (60 : Int32))] 5)) tgt := fun tgt kgo => castTop (ef_rmsub m a) kgo
  obtain ⟨sEA, sCA, spA, slA, tA, skA, sVA, sAA⟩ := id Sa
  obtain ⟨cq1, kq1, q1a, q1b, q1c⟩ := isOf hZ e0 sEA
  obtain ⟨_, _, ⟨T1, L1, k1, n1⟩, -, X1, ⟨Lc1, hQ1, l1, y1, z1⟩, st1⟩ := X0.virtualBack hx (y := my16) (z := my16) hown (mvT hZ (ow188 hw)) (mvT hZ (ow46 hw)) (notFace_of_selects (args := #[]) (mvT hZ (ow48 hw))) (mvT hZ (ow48 hw)) (mvT hZ (ow47 hw)) (by decide) (StrChars.Road.lenW (W := 0) hZ (own_wlen hw) (kI := 4) (ow13 hw) (cs := cs) sEA sVA sCA sAA (StrChars.Road.codOf rfl (fun c hc => (spA c hc).2)) (own_up _ spA) (O2.ext O0.2) P5 slA (by decide) (by decide)) q1a q1c (g := (mkF m 1 #[(VR a), (VI 0), (VI 60), .unset, .unset] [(.ref a)])) rfl (by rw [hml]; rfl) (Steps.refl _) (argsL := []) (rest := []) (lenOf pd9 rfl) rfl (w0 rfl rfl) (B d31_1) (fun _ _ => ⟨rfl, e0, (by decide : 0 + 0 ≤ _), (by decide : 0 + 0 ≤ _)⟩)
  dsimp only [Pt.U, Pt.locs, Pt.cells, Pt.slots] at X1 l1 y1 z1 st1 hQ1
  rw [l1, y1, z1] at X1
  obtain ⟨rfl, hL1, eq1⟩ := hQ1
  have Nq1 := own_frn hL1 n0
  have N2 := Fr.app N0 Nq1
  obtain ⟨_, _, ⟨T3, L3, k3, n3⟩, -, X3, ⟨Lc3, hQ3, l3, y3, z3⟩, st3⟩ := Jvm.LawKit.callS X1 hx (y := my3) hown (mvT hZ (ow189 hw)) (mvT hZ (ow190 hw)) (mvT hZ (ow14 hw)) (mvT hZ (ow191 hw)) (by decide) (backOf (W := 0) (rmcb l Z a0 hw [] (0 : Int32) (60 : Int32) (Int32.ofNat (List.length cs)) G1 fm h0 n0 O0 O2 P5 O4 rf (by decide) (by decide) (fun q => by have := (on_lt (j := 60) (by omega) (by omega)).mp q; omega)) hZ (ow191 hw) (ow14 hw) (by decide) (by decide)) (g := (mkF m 8 #[(VR a), (VI 0), (VI 60), (VI (Int32.ofNat (List.length cs))), .unset] [(.int (Int32.ofNat (List.length cs))), (.int 60), (.int 0)])) rfl (by rw [hml]; rfl) (argsL := [(.int 0), (.int 60), (.int (Int32.ofNat (List.length cs)))]) (rest := []) (lenOf pd20 rfl) rfl (w0 rfl rfl) (B d31_8) (fun _ _ => ⟨rfl, eq1, (by decide : 0 + 0 ≤ _), (by decide : 0 + 0 ≤ _)⟩)
  dsimp only [Pt.U, Pt.locs, Pt.cells, Pt.slots] at X3 l3 y3 z3 st3 hQ3
  rw [l3, y3, z3] at X3
  obtain ⟨rfl, Nq3, eq3⟩ := hQ3
  have N4 := Fr.app N2 Nq3
  obtain ⟨cq5, kq5, q5a, q5b, q5c⟩ := isOf hZ eq3 sEA
  obtain ⟨_, _, ⟨T5, L5, k5, n5⟩, -, X5, ⟨Lc5, hQ5, l5, y5, z5⟩, st5⟩ := X3.virtualBack hx (y := my4) (z := my4) hown (mvT hZ (ow197 hw)) (mvT hZ (ow198 hw)) (notFace_of_selects (args := #[]) (mvT hZ (ow200 hw))) (mvT hZ (ow200 hw)) (mvT hZ (ow199 hw)) (by decide) (backOf (W := 0) (rmil l Z a0 hw [] a G1 h0 n0 O0 O2 P5 sCA) hZ (ow201 hw) (ow14 hw) (by decide) (by decide)) q5a q5c (g := (mkF m 28 #[(VR a), (VI 0), (VI 60), (VI (Int32.ofNat (List.length cs))), (VI 60)] [(.ref a)])) rfl (by rw [hml]; rfl) (Steps.refl _) (argsL := []) (rest := []) (lenOf pd16 rfl) rfl (w0 rfl rfl) (B d31_28) (fun _ _ => ⟨rfl, eq3, (by decide : 0 + 0 ≤ _), (by decide : 0 + 0 ≤ _)⟩)
  dsimp only [Pt.U, Pt.locs, Pt.cells, Pt.slots] at X5 l5 y5 z5 st5 hQ5
  rw [l5, y5, z5] at X5
  obtain ⟨rfl, Nq5, eq5⟩ := hQ5
  have N6 := Fr.app N4 Nq5
  obtain ⟨T7, X7, e7, st7⟩ := getF X5 hx hZ hown (host := "") (Or.inl (ow39 hw)) Via.refl eq5 sVA (g := (mkF m 35 #[(VR a), (VI 0), (VI 60), (VI (Int32.ofNat (List.length cs))), (VI 60)] [(.ref a)])) rfl rfl (B d31_35)
  obtain ⟨_, _, ⟨T8, L8, k8, n8⟩, -, X8, ⟨Lc8, hQ8, l8, y8, z8⟩, st8⟩ := Jvm.LawKit.callS X7 hx (y := my31) hown (mvT hZ (ow202 hw)) (mvT hZ (ow203 hw)) (mvT hZ (ow164 hw)) (mvT hZ (ow204 hw)) (by decide) (backOf (W := 0) (rmns l Z a0 hw [] tA skA cs h0 n0 O0 sAA spA h60 h65) hZ (ow204 hw) (ow164 hw) (by decide) (by decide)) (g := (mkF m 41 #[(VR a), (VI 0), (VI 60), (VI (Int32.ofNat (List.length cs))), (VI 60)] [(.int 60), (.int 0), (.ref tA)])) rfl (by rw [hml]; rfl) (argsL := [(.ref tA), (.int 0), (.int 60)]) (rest := []) (lenOf pd21 rfl) rfl (w0 rfl rfl) (B d31_41) (fun _ _ => ⟨rfl, e7, (by decide : 0 + 2 ≤ _), (by decide : 0 + 69 ≤ _)⟩)
  dsimp only [Pt.U, Pt.locs, Pt.cells, Pt.slots] at X8 l8 y8 z8 st8 hQ8
  rw [l8, y8, z8] at X8
  obtain ⟨nb8, rfl, Nq8, kp8, Sn8⟩ := hQ8
  have N9 := Fr.app N6 Nq8
  have Ol10 := O0.keep kp8 all0
  have K10 := K0.trans kp8 all0
  obtain ⟨fs, hretL, hrun, hended, hW, hsame⟩ := X8.leave (v := some (.ref nb8)) (fun h => by rw [Bd.returns] at h; cases h)
  refine ⟨_, _, pre0 _ ?_, hrun, hended, _, _, rfl, ?_, ⟨_, rfl⟩, hW, hsame.mono (by decide) (by decide)⟩
  · refine XS.aloadN X0.here hx rfl (B d31_0) rfl rfl ?_
    refine st1.trans ?_
    show GO p e below T1 (mkF m 4 #[(VR a), (VI 0), (VI 60), .unset, .unset] [(.int (Int32.ofNat (List.length cs)))]) _
    refine XS.istoreN X1.here hx rfl (B d31_4) rfl (l' := #[.val (.ref a), .val (.int (0 : Int32)), .val (.int (60 : Int32)), .val (.int (Int32.ofNat (List.length cs))), .unset]) rfl ?_
    refine XS.iloadN X1.here hx rfl (B d31_5) rfl ?_
    refine XS.iloadN X1.here hx rfl (B d31_6) rfl ?_
    refine XS.iloadN X1.here hx rfl (B d31_7) rfl ?_
    refine st3 _ ?_
    show GO p e below T3 (mkF m 11 #[(VR a), (VI 0), (VI 60), (VI (Int32.ofNat (List.length cs))), .unset] []) _
    refine XS.iloadN X3.here hx rfl (B d31_11) rfl ?_
    refine XS.ifNo X3.here hx rfl (B d31_12) rfl ((if0 _ _).trans (teq (by decide : (0 : Int32) = (0 : Int32))).2) ?_
    show GO p e below T3 (mkF m 15 #[(VR a), (VI 0), (VI 60), (VI (Int32.ofNat (List.length cs))), .unset] []) _
    refine XS.iloadN X3.here hx rfl (B d31_15) rfl ?_
    refine XS.iloadN X3.here hx rfl (B d31_16) rfl ?_
    refine XS.icmpYes X3.here hx rfl (pc0 := 17) (pc' := 22) rfl (B d31_17) rfl (feq (fun q => by have := (on_eq (i := 60) (by omega) (by omega)).mp q; omega)).2 (by decide) (by decide) ?_
    show GO p e below T3 (mkF m 22 #[(VR a), (VI 0), (VI 60), (VI (Int32.ofNat (List.length cs))), .unset] []) _
    refine XS.iloadN X3.here hx rfl (B d31_22) rfl ?_
    refine XS.iloadN X3.here hx rfl (B d31_23) rfl ?_
    refine XS.isub X3.here hx rfl (B d31_24) rfl ?_
    refine XS.istore X3.here hx rfl (B d31_25) rfl (l' := #[.val (.ref a), .val (.int (0 : Int32)), .val (.int (60 : Int32)), .val (.int (Int32.ofNat (List.length cs))), .val (.int (60 : Int32))]) rfl ?_
    refine XS.aloadN X3.here hx rfl (B d31_27) rfl rfl ?_
    refine st5.trans ?_
    show GO p e below T5 (mkF m 31 #[(VR a), (VI 0), (VI 60), (VI (Int32.ofNat (List.length cs))), (VI 60)] [(.int 1)]) _
    refine XS.ifNo X5.here hx rfl (B d31_31) rfl ((if0 _ _).trans (feq (by decide : ¬ ((1 : Int32) = (0 : Int32)))).1) ?_
    show GO p e below T5 (mkF m 34 #[(VR a), (VI 0), (VI 60), (VI (Int32.ofNat (List.length cs))), (VI 60)] []) _
    refine XS.aloadN X5.here hx rfl (B d31_34) rfl rfl ?_
    refine st7 _ ?_
    show GO p e below T7 (mkF m 38 #[(VR a), (VI 0), (VI 60), (VI (Int32.ofNat (List.length cs))), (VI 60)] [(.ref tA)]) _
    refine XS.iloadN X7.here hx rfl (B d31_38) rfl ?_
    refine XS.iload X7.here hx rfl (B d31_39) rfl ?_
    refine st8 _ ?_
    show GO p e below T8 (mkF m 44 #[(VR a), (VI 0), (VI 60), (VI (Int32.ofNat (List.length cs))), (VI 60)] [(.ref nb8)]) _
    refine XS.goto X8.here hx rfl (pc0 := 44) (pc' := 57) rfl (B d31_44) (by decide) (by decide) ?_
    exact retOut X8 hx Bd.returns rfl (Or.inr (Or.inr (Or.inr (Or.inr ⟨rfl, rfl, rfl⟩)))) (B d31_57) hretL
  · show Q_rmsub Z a cs G1 fm h0 n0 _ T8.heap _
    exact ⟨_, rfl, N9, K10, Sn8⟩
theorem d32_0 : decode prog_21_method_10_code 0 = .ok (.aload_n 0, 1) := by decide +kernel
theorem d32_1 : decode prog_21_method_10_code 1 = .ok (.invokevirtual 164, 3) := by decide +kernel
theorem d32_4 : decode prog_21_method_10_code 4 = .ok (.bipush 60, 2) := by decide +kernel
theorem d32_6 : decode prog_21_method_10_code 6 = .ok (.if_icmp .le 31, 3) := by decide +kernel
theorem d32_37 : decode prog_21_method_10_code 37 = .ok (.aload_n 0, 1) := by decide +kernel
theorem d32_38 : decode prog_21_method_10_code 38 = .ok (.astore_n 1, 1) := by decide +kernel
theorem d32_39 : decode prog_21_method_10_code 39 = .ok (.new 71, 3) := by decide +kernel
theorem d32_42 : decode prog_21_method_10_code 42 = .ok (.dup, 1) := by decide +kernel
theorem d32_43 : decode prog_21_method_10_code 43 = .ok (.invokespecial 73, 3) := by decide +kernel
theorem d32_46 : decode prog_21_method_10_code 46 = .ok (.ldc 222, 2) := by decide +kernel
theorem d32_48 : decode prog_21_method_10_code 48 = .ok (.invokevirtual 78, 3) := by decide +kernel
theorem d32_51 : decode prog_21_method_10_code 51 = .ok (.aload_n 1, 1) := by decide +kernel
theorem d32_52 : decode prog_21_method_10_code 52 = .ok (.invokevirtual 78, 3) := by decide +kernel
theorem d32_55 : decode prog_21_method_10_code 55 = .ok (.ldc 222, 2) := by decide +kernel
theorem d32_57 : decode prog_21_method_10_code 57 = .ok (.invokevirtual 78, 3) := by decide +kernel
theorem d32_60 : decode prog_21_method_10_code 60 = .ok (.invokevirtual 87, 3) := by decide +kernel
theorem d32_63 : decode prog_21_method_10_code 63 = .ok (.areturn, 1) := by decide +kernel
def Q_rmqa (Z : State) (a : Addr) (cs : List Int32) (G1 : Int32) (fm : Value) (h0 : Heap) (n0 : Nat) (v : Option Value) (h : Heap) (L : List Loc) : Prop := ∃ b : Addr, v = some (.ref b) ∧ Fr n0 L ∧ Keep h0 h [] ∧ StrP Z h b (qs cs)
theorem ef_rmqa (m : MethodId) (a : Addr) : entryFrame m #[(.ref a)] 2 = mkF m 0 #[.val (.ref a), .unset] [] := by first | (simp [entryFrame, mkF, argsToLocals, Value.category]; done) | rfl
set_option maxRecDepth 65536 in
set_option maxHeartbeats 40000000 in
theorem rmqa (l : Launch) (Z : State) (a0 : Array Value) (hw : HW a0 Z) (ws : List Jvm.Cond) (a : Addr) (cs : List Int32) (G1 : Int32) (fm : Value) (h0 : Heap) (n0 : Nat) (O0 : Old Z n0 h0) (O2 : Sta Z Z.heap "java/lang/String" "COMPACT_STRINGS" "Z" (.int G1)) (P5 : ¬ (G1 = (0 : Int32))) (O4 : Sta Z Z.heap "jdk/internal/util/Preconditions" "SIOOBE_FORMATTER" "Ljava/util/function/BiFunction;" fm) (rf : fm.isRef = true) (Sa : StrP Z h0 a cs) (hn : List.length cs ≤ 13) :
    MetFree l my33 (head1 (Jvm.Cond.code my33 prog_21_method_10_code 2 (some (.object "java/lang/String")) :: ws) ({ frames := 6, cells := 8, slots := 105, locals := 133 } : Room)) (fun aa U => aa = #[(.ref a)] ∧ Z.Warmed39 U.vm ∧ U.heap = h0 ∧ CHv Z EL0 U.vm h0) (fun _ _ _ _ _ => True) (fun _ U o U' => ∃ v L, o = .returned v ∧ Q_rmqa Z a cs G1 fm h0 n0 v U'.heap L ∧ CHr Z EL0 U.vm U.heap U'.vm U'.heap ∧ ReturnedEndW U o U' L ({ frames := 6, cells := 8, slots := 105, locals := 133 } : Room).cells ({ frames := 6, cells := 8, slots := 105, locals := 133 } : Room).slots) := by
  refine MetFree.of_bodySF (plainFor_of_name pn7) hisR ?_
  intro p e s m args below meth c s₁ Bd hml0 hP hK
  obtain ⟨rfl, hZ, hh, hCH⟩ := hP
  have hx := Bd.exec
  have hby := Bd.bytes
  have B := fun {pc : Nat} {r} (h : decode prog_21_method_10_code pc = r) => hb hby h
  have hml : c.maxLocals = 2 := hml0
  have hown : s.vm.findClass "com/example/atropos/atropos/io/CurveText" = some m.cls := findClass_of_methodNamed Bd.named
  have hnm := (name_of_methodNamed Bd.named Bd.method).1
  have X0 : Stand p l e ({ frames := 6, cells := 8, slots := 105, locals := 133 } : Room) (s.setVm s.vm) m #[(.ref a)] below meth c s₁ [] 0 0 := Stand.of_body Bd
  have e0 : s₁.heap = h0 := by rw [← hh, Bd.state]; rfl
  have N0 := Fr.nil n0
  have K0 : Keep h0 h0 [] := Keep.refl _ _
  have pre0 : ∀ tgt, Steps p.tables e below (s₁.setTop (mkF m 0 #[.val (.ref a), .unset] [])) tgt → Steps p.tables e below (s₁.setTop (entryFrame m #[(.ref a)] 2)) tgt := fun tgt kgo => castTop (ef_rmqa m a) kgo
  have hS0 : s.Since s.vm 0 := (State.WarmedH.refl s).since 0
  have hk0 : 0 ≤ h0.size := Nat.zero_le _
  have CH0 : CHr Z EL0 s.vm h0 s.vm h0 := CHr.refl hCH
  obtain ⟨sEA, sCA, spA, slA, tA, skA, sVA, sAA⟩ := id Sa
  obtain ⟨cq1, kq1, q1a, q1b, q1c⟩ := isOf hZ e0 sEA
  obtain ⟨_, _, ⟨T1, L1, k1, n1⟩, -, X1, ⟨Lc1, hQ1, l1, y1, z1⟩, st1⟩ := X0.virtualBack hx (y := my16) (z := my16) hown (mvT hZ (ow45 hw)) (mvT hZ (ow46 hw)) (notFace_of_selects (args := #[]) (mvT hZ (ow48 hw))) (mvT hZ (ow48 hw)) (mvT hZ (ow47 hw)) (by decide) (StrChars.Road.lenW (W := 0) hZ (own_wlen hw) (kI := 4) (ow13 hw) (cs := cs) sEA sVA sCA sAA (StrChars.Road.codOf rfl (fun c hc => (spA c hc).2)) (own_up _ spA) (O2.ext O0.2) P5 slA (by decide) (by decide)) q1a q1c (g := (mkF m 1 #[(VR a), .unset] [(.ref a)])) rfl (by rw [hml]; rfl) (Steps.refl _) (argsL := []) (rest := []) (lenOf pd9 rfl) rfl (w0 rfl rfl) (B d32_1) (fun _ _ => ⟨rfl, e0, (by decide : 0 + 0 ≤ _), (by decide : 0 + 0 ≤ _)⟩)
  dsimp only [Pt.U, Pt.locs, Pt.cells, Pt.slots] at X1 l1 y1 z1 st1 hQ1
  rw [l1, y1, z1] at X1
  obtain ⟨rfl, hL1, eq1⟩ := hQ1
  have Nq1 := own_frn hL1 n0
  have N2 := Fr.app N0 Nq1
  obtain ⟨T3, h3, X3, e3, E3, A3, D3, U3, st3⟩ := newO X1 hx hZ hown (ow55 hw) (ow56 hw) (ow57 hw) eq1 (g := (mkF m 39 #[(VR a), (VR a)] [])) rfl (B d32_39) (by decide) (by decide)
  obtain ⟨b3, g3⟩ : ∃ z, z = h0.size := ⟨_, rfl⟩
  rw [← g3] at A3 D3 U3 st3
  have gn3 : n0 ≤ b3 := Nat.le_trans (own_sz O0) (Nat.le_of_eq g3.symm)
  have sz3 : h0.size ≤ b3 := Nat.le_trans K0.1 (Nat.le_of_eq g3.symm)
  have nea_3 : a ≠ b3 := Nat.ne_of_lt (Nat.lt_of_lt_of_le sEA.lt (Nat.le_of_eq g3.symm))
  have netA_3 : tA ≠ b3 := Nat.ne_of_lt (Nat.lt_of_lt_of_le sAA.lt (Nat.le_of_eq g3.symm))
  have Y3 := Safe.ext E3 CH0.1 (Safe.new (x := b3) (Nat.le_of_eq g3.symm))
  have CH4 := CH0.trans (CHr.ext E3 CH0.1)
  have hk4 := Nat.le_trans hk0 E3.1
  have Ol5 := O0.ext E3
  have K5 := K0.ext E3
  have Fvalue_3 : Fld Z h3 b3 "java/lang/AbstractStringBuilder" "value" "[B" .null := D3 (Or.inl (ow70 hw)) (ty := (.array .byte)) (by decide)
  have Fcoder_3 : Fld Z h3 b3 "java/lang/AbstractStringBuilder" "coder" "B" (.int (0 : Int32)) := D3 (Or.inl (ow72 hw)) (ty := .byte) (by decide)
  have Fcount_3 : Fld Z h3 b3 "java/lang/AbstractStringBuilder" "count" "I" (.int (0 : Int32)) := D3 (Or.inl (ow88 hw)) (ty := .int) (by decide)
  have f6 := (sEA.ext E3)
  have f7 := (sAA.ext E3)
  obtain ⟨_, _, ⟨T8, L8, k8, n8⟩, -, X8, ⟨Lc8, hQ8, l8, y8, z8⟩, st8⟩ := X3.specialBack hx (y := my20) rfl hown (mvT hZ (ow58 hw)) (mvT hZ (ow59 hw)) (mvT hZ (ow60 hw)) (by decide) (backOf (W := 1) (rmsi l Z a0 hw [] b3 G1 h3 n0 Ol5 O2 P5 A3 Fvalue_3 Fcoder_3 Fcount_3 gn3) hZ (ow60 hw) (ow57 hw) (by decide) (by decide)) (g := (mkF m 43 #[(VR a), (VR a)] [(.ref b3), (.ref b3)])) rfl (by rw [hml]; rfl) (Steps.refl _) (a := b3) (argsL := []) (rest := [(.ref b3)]) (lenOf pd22 rfl) rfl (w0 rfl rfl) (B d32_43) (fun _ _ => ⟨rfl, e3, (by decide : 1 + 1 ≤ _), (by decide : 4 + 16 ≤ _)⟩)
  dsimp only [Pt.U, Pt.locs, Pt.cells, Pt.slots] at X8 l8 y8 z8 st8 hQ8
  rw [l8, y8, z8] at X8
  obtain ⟨tb8, kb8, rfl, Nq8, kp8, gn8, gz8, fv8, fc8, fn8, na8⟩ := hQ8
  have N9 := Fr.app N2 Nq8
  have CH10 := CH4.trans (CHr.keep kp8 (sfS Y3 sf0) CH4.1)
  have hk10 := Nat.le_trans hk4 kp8.1
  have Ol11 := Ol5.keep kp8 (allS gn3 all0)
  have K11 := K5.trans kp8 (allS (Or.inr sz3) all0)
  have gne8_a : a ≠ tb8 := Nat.ne_of_lt (Nat.lt_of_lt_of_le f6.lt gz8)
  have gne8_tA : tA ≠ tb8 := Nat.ne_of_lt (Nat.lt_of_lt_of_le f7.lt gz8)
  have gne8_b3 : b3 ≠ tb8 := Nat.ne_of_lt (Nat.lt_of_lt_of_le A3.lt gz8)
  have Yb8 := Safe.keep kp8 (sfS Y3 sf0) CH4.1 (Safe.new (x := tb8) gz8)
  have f12 := (f6.keep kp8)
  have f13 := (f7.keep kp8 (ninS netA_3 nin0))
  have f14 := (A3.keep kp8)
  obtain ⟨b15, T15, h15, kk15, d15, k15, X15, e15, E15, hS15, hk15, hZ15, hown15, Ex15, Fc15, Fv15, Av15, -, -, CR15, -, sn15, st15⟩ := ldcCH X8 hx hZ hown (ow73 hw) (own_wS hw) rfl hS0 hk10 (own_EW hw) (by decide) CH10.1 (vs := [(.int (34 : Int32))]) (z := (1 : Int32)) ⟨by decide, rfl⟩ (by decide) (by decide) (g := (mkF m 46 #[(VR a), (VR a)] [(.ref b3)])) rfl (B d32_46) (n := 4) (by decide) (by decide) (by decide) (by decide)
  have Ol16 := Ol11.ext E15
  have K16 := K11.ext E15
  have CH16 := CH10.trans CR15
  have f17 := (CHr.safe CR15 f14.lt (Safe.keep kp8 (sfS Y3 sf0) CH4.1 Y3))
  have sq15_2 := sn15 b3 f17
  have f18 := (CHr.safe CR15 na8.lt Yb8)
  have sq15_3 := sn15 tb8 f18
  have f19 := (f12.ext E15)
  have f20 := (f13.ext E15)
  have f21 := (f14.ext E15)
  have f22 := (na8.ext E15)
  have f23 := (fv8.ext E15)
  have f24 := (fc8.ext E15)
  have f25 := (fn8.ext E15)
  obtain ⟨cq26, kq26, q26a, q26b, q26c⟩ := isOf hZ15 e15 f21
  obtain ⟨_, _, ⟨T26, L26, k26, n26⟩, -, X26, ⟨Lc26, hQ26, l26, y26, z26⟩, st26⟩ := X15.virtualBack hx (y := my18) (z := my18) hown15 (mvT hZ15 (ow76 hw)) (mvT hZ15 (ow77 hw)) (notFace_of_selects (args := #[]) (mvT hZ15 (ow79 hw))) (mvT hZ15 (ow79 hw)) (mvT hZ15 (ow78 hw)) (by decide) (backOf (W := 0) (rmbn l Z a0 hw [] b3 b15 tb8 kb8 16 ([] : List Int32) [(34 : Int32)] G1 h15 n0 Ol16 O2 P5 f21 f23 f24 f25 f22 gn3 gn8 ⟨Ex15, Fc15, own_sp34, (by decide), d15, k15, Fv15, Av15⟩ (by first | (simp only [List.length_append, List.length_cons, List.length_nil, List.length_take] <;> omega) | omega) (by first | (simp only [List.length_append, List.length_cons, List.length_nil, List.length_take] <;> omega) | omega) (by first | (simp only [List.length_append, List.length_cons, List.length_nil, List.length_take] <;> omega) | omega)) hZ15 (ow80 hw) (ow57 hw) (by decide) (by decide)) q26a q26c (g := (mkF m 48 #[(VR a), (VR a)] [(.ref b15), (.ref b3)])) rfl (by rw [hml]; rfl) (Steps.refl _) (argsL := [(.ref b15)]) (rest := []) (lenOf pd23 rfl) rfl (w0 rfl rfl) (B d32_48) (fun _ _ => ⟨rfl, e15, (by decide : 4 + 0 ≤ _), (by decide : 28 + 0 ≤ _)⟩)
  dsimp only [Pt.U, Pt.locs, Pt.cells, Pt.slots] at X26 l26 y26 z26 st26 hQ26
  rw [l26, y26, z26] at X26
  obtain ⟨rfl, Nq26, kp26, fv26, fc26, fn26, na26⟩ := hQ26
  have N27 := Fr.app N9 Nq26
  have CH28 := CH16.trans (CHr.keep kp26 (sfS f17 (sfS f18 sf0)) CH16.1)
  have hk28 := Nat.le_trans hk15 kp26.1
  have Ol29 := Ol16.keep kp26 (allS gn3 (allS gn8 all0))
  have K29 := K16.trans kp26 (allS (Or.inr sz3) (allS (Or.inr (Nat.le_trans K5.1 gz8)) all0))
  have f30 := (f19.keep kp26)
  have f31 := (f20.keep kp26 (ninS netA_3 (ninS gne8_tA nin0)))
  have f32 := (f21.keep kp26)
  have f33 := ((((sCA.ext E3).keep kp8 (ninS nea_3 nin0)).ext E15).keep kp26 (ninS nea_3 (ninS gne8_a nin0)))
  have f34 := ((((sVA.ext E3).keep kp8 (ninS nea_3 nin0)).ext E15).keep kp26 (ninS nea_3 (ninS gne8_a nin0)))
  obtain ⟨cq35, kq35, q35a, q35b, q35c⟩ := isOf hZ15 rfl f32
  obtain ⟨_, _, ⟨T35, L35, k35, n35⟩, -, X35, ⟨Lc35, hQ35, l35, y35, z35⟩, st35⟩ := X26.virtualBack hx (y := my18) (z := my18) hown15 (mvT hZ15 (ow76 hw)) (mvT hZ15 (ow77 hw)) (notFace_of_selects (args := #[]) (mvT hZ15 (ow79 hw))) (mvT hZ15 (ow79 hw)) (mvT hZ15 (ow78 hw)) (by decide) (backOf (W := 0) (rmbn l Z a0 hw [] b3 a tb8 kb8 16 (([] : List Int32) ++ [(34 : Int32)]) cs G1 T26.heap n0 Ol29 O2 P5 f32 fv26 fc26 fn26 na26 gn3 gn8 ⟨f30, f33, spA, slA, tA, skA, f34, f31⟩ (by first | (simp only [List.length_append, List.length_cons, List.length_nil, List.length_take] <;> omega) | omega) (by first | (simp only [List.length_append, List.length_cons, List.length_nil, List.length_take] <;> omega) | omega) (by first | (simp only [List.length_append, List.length_cons, List.length_nil, List.length_take] <;> omega) | omega)) hZ15 (ow80 hw) (ow57 hw) (by decide) (by decide)) q35a q35c (g := (mkF m 52 #[(VR a), (VR a)] [(.ref a), (.ref b3)])) rfl (by rw [hml]; rfl) (Steps.refl _) (argsL := [(.ref a)]) (rest := []) (lenOf pd23 rfl) rfl (w0 rfl rfl) (B d32_52) (fun _ _ => ⟨rfl, rfl, (by decide : 4 + 0 ≤ _), (by decide : 28 + 0 ≤ _)⟩)
  dsimp only [Pt.U, Pt.locs, Pt.cells, Pt.slots] at X35 l35 y35 z35 st35 hQ35
  rw [l35, y35, z35] at X35
  obtain ⟨rfl, Nq35, kp35, fv35, fc35, fn35, na35⟩ := hQ35
  have N36 := Fr.app N27 Nq35
  have f37 := (Safe.keep kp26 (sfS f17 (sfS f18 sf0)) CH16.1 f18)
  have f38 := (Safe.keep kp26 (sfS f17 (sfS f18 sf0)) CH16.1 f17)
  have CH39 := CH28.trans (CHr.keep kp35 (sfS f38 (sfS f37 sf0)) CH28.1)
  have hk39 := Nat.le_trans hk28 kp35.1
  have Ol40 := Ol29.keep kp35 (allS gn3 (allS gn8 all0))
  have K40 := K29.trans kp35 (allS (Or.inr sz3) (allS (Or.inr (Nat.le_trans K5.1 gz8)) all0))
  have f41 := (f32.keep kp35)
  obtain ⟨b42, T42, h42, kk42, d42, k42, X42, e42, E42, hS42, hk42, hZ42, hown42, Ex42, Fc42, Fv42, Av42, -, -, CR42, -, sn42, st42⟩ := ldcCH X35 hx hZ15 hown15 (ow73 hw) (own_wS hw) rfl hS15 hk39 (own_EW hw) (by decide) CH39.1 (vs := [(.int (34 : Int32))]) (z := (1 : Int32)) ⟨by decide, rfl⟩ (by decide) (by decide) (g := (mkF m 55 #[(VR a), (VR a)] [(.ref b3)])) rfl (B d32_55) (n := 4) (by decide) (by decide) (by decide) (by decide)
  have Ol43 := Ol40.ext E42
  have K43 := K40.ext E42
  have CH43 := CH39.trans CR42
  have f44 := (CHr.safe CR42 f41.lt (Safe.keep kp35 (sfS f38 (sfS f37 sf0)) CH28.1 f38))
  have sq42_0 := sn42 b3 f44
  have f45 := (CHr.safe CR42 na35.lt (Safe.keep kp35 (sfS f38 (sfS f37 sf0)) CH28.1 f37))
  have sq42_1 := sn42 tb8 f45
  have f46 := (f41.ext E42)
  have f47 := (na35.ext E42)
  have f48 := (fv35.ext E42)
  have f49 := (fc35.ext E42)
  have f50 := (fn35.ext E42)
  obtain ⟨cq51, kq51, q51a, q51b, q51c⟩ := isOf hZ42 e42 f46
  obtain ⟨_, _, ⟨T51, L51, k51, n51⟩, -, X51, ⟨Lc51, hQ51, l51, y51, z51⟩, st51⟩ := X42.virtualBack hx (y := my18) (z := my18) hown42 (mvT hZ42 (ow76 hw)) (mvT hZ42 (ow77 hw)) (notFace_of_selects (args := #[]) (mvT hZ42 (ow79 hw))) (mvT hZ42 (ow79 hw)) (mvT hZ42 (ow78 hw)) (by decide) (backOf (W := 0) (rmbn l Z a0 hw [] b3 b42 tb8 kb8 16 ((([] : List Int32) ++ [(34 : Int32)]) ++ cs) [(34 : Int32)] G1 h42 n0 Ol43 O2 P5 f46 f48 f49 f50 f47 gn3 gn8 ⟨Ex42, Fc42, own_sp34, (by decide), d42, k42, Fv42, Av42⟩ (by first | (simp only [List.length_append, List.length_cons, List.length_nil, List.length_take] <;> omega) | omega) (by first | (simp only [List.length_append, List.length_cons, List.length_nil, List.length_take] <;> omega) | omega) (by first | (simp only [List.length_append, List.length_cons, List.length_nil, List.length_take] <;> omega) | omega)) hZ42 (ow80 hw) (ow57 hw) (by decide) (by decide)) q51a q51c (g := (mkF m 57 #[(VR a), (VR a)] [(.ref b42), (.ref b3)])) rfl (by rw [hml]; rfl) (Steps.refl _) (argsL := [(.ref b42)]) (rest := []) (lenOf pd23 rfl) rfl (w0 rfl rfl) (B d32_57) (fun _ _ => ⟨rfl, e42, (by decide : 6 + 0 ≤ _), (by decide : 36 + 0 ≤ _)⟩)
  dsimp only [Pt.U, Pt.locs, Pt.cells, Pt.slots] at X51 l51 y51 z51 st51 hQ51
  rw [l51, y51, z51] at X51
  obtain ⟨rfl, Nq51, kp51, fv51, fc51, fn51, na51⟩ := hQ51
  have N52 := Fr.app N36 Nq51
  have CH53 := CH43.trans (CHr.keep kp51 (sfS f44 (sfS f45 sf0)) CH43.1)
  have hk53 := Nat.le_trans hk42 kp51.1
  have Ol54 := Ol43.keep kp51 (allS gn3 (allS gn8 all0))
  have K54 := K43.trans kp51 (allS (Or.inr sz3) (allS (Or.inr (Nat.le_trans K5.1 gz8)) all0))
  have f55 := (f46.keep kp51)
  obtain ⟨cq56, kq56, q56a, q56b, q56c⟩ := isOf hZ42 rfl f55
  obtain ⟨_, _, ⟨T56, L56, k56, n56⟩, -, X56, ⟨Lc56, hQ56, l56, y56, z56⟩, st56⟩ := X51.virtualBack hx (y := my29) (z := my29) hown42 (mvT hZ42 (ow114 hw)) (mvT hZ42 (ow115 hw)) (notFace_of_selects (args := #[]) (mvT hZ42 (ow117 hw))) (mvT hZ42 (ow117 hw)) (mvT hZ42 (ow116 hw)) (by decide) (backOf (W := 0) (rmts l Z a0 hw [] b3 tb8 kb8 16 (((([] : List Int32) ++ [(34 : Int32)]) ++ cs) ++ [(34 : Int32)]) G1 T51.heap n0 Ol54 O2 P5 f55 fv51 fc51 fn51 na51 (own_spa (own_spa (own_spa own_nil own_sp34) spA) own_sp34) (by first | (simp only [List.length_append, List.length_cons, List.length_nil, List.length_take] <;> omega) | omega) (by first | (simp only [List.length_append, List.length_cons, List.length_nil, List.length_take] <;> omega) | omega) (by first | (simp only [List.length_append, List.length_cons, List.length_nil, List.length_take] <;> omega) | omega)) hZ42 (ow118 hw) (ow57 hw) (by decide) (by decide)) q56a q56c (g := (mkF m 60 #[(VR a), (VR a)] [(.ref b3)])) rfl (by rw [hml]; rfl) (Steps.refl _) (argsL := []) (rest := []) (lenOf pd24 rfl) rfl (w0 rfl rfl) (B d32_60) (fun _ _ => ⟨rfl, rfl, (by decide : 6 + 2 ≤ _), (by decide : 36 + 69 ≤ _)⟩)
  dsimp only [Pt.U, Pt.locs, Pt.cells, Pt.slots] at X56 l56 y56 z56 st56 hQ56
  rw [l56, y56, z56] at X56
  obtain ⟨rb56, rfl, Nq56, kp56, gb56, Sr56⟩ := hQ56
  have N57 := Fr.app N52 Nq56
  have CH58 := CH53.trans (CHr.keep kp56 sf0 CH53.1)
  have hk58 := Nat.le_trans hk53 kp56.1
  have Ol59 := Ol54.keep kp56 all0
  have K59 := K54.trans kp56 all0
  obtain ⟨sER56, sCR56, spR56, slR56, tR56, skR56, sVR56, sAR56⟩ := id Sr56
  obtain ⟨fs, hretL, hrun, hended, hEnd⟩ := Stand.leaveW X56 hS42 hk58 (v := some (.ref rb56)) (fun h => by rw [Bd.returns] at h; cases h)
  have hCf : CHr Z EL0 s.vm s.heap T56.vm T56.heap := by rw [hh]; exact CH58.trans (CHv.at X56 hZ42 (own_EW hw) CH58.1)
  refine ⟨_, _, pre0 _ ?_, hrun, hended, _, _, rfl, ?_, hCf, hEnd.1, hEnd.2.1, hEnd.2.2.1, hEnd.2.2.2.mono (by decide) (by decide)⟩
  · refine XS.aloadN X0.here hx rfl (B d32_0) rfl rfl ?_
    refine st1.trans ?_
    show GO p e below T1 (mkF m 4 #[(VR a), .unset] [(.int (Int32.ofNat (List.length cs)))]) _
    refine XS.bipush X1.here hx rfl (B d32_4) ?_
    refine XS.icmpYes X1.here hx rfl (pc0 := 6) (pc' := 37) rfl (B d32_6) rfl (flt (fun q => by have := (on_lt (i := 60) (by omega) (by omega)).mp q; omega)).2.2.2 (by decide) (by decide) ?_
    show GO p e below T1 (mkF m 37 #[(VR a), .unset] []) _
    refine XS.aloadN X1.here hx rfl (B d32_37) rfl rfl ?_
    refine XS.astoreN X1.here hx rfl (B d32_38) rfl rfl (l' := #[.val (.ref a), .val (.ref a)]) rfl ?_
    refine st3 _ ?_
    show GO p e below T3 (mkF m 42 #[(VR a), (VR a)] [(.ref b3)]) _
    refine XS.dup X3.here hx rfl (B d32_42) rfl rfl ?_
    refine st8.trans ?_
    show GO p e below T8 (mkF m 46 #[(VR a), (VR a)] [(.ref b3)]) _
    refine st15 _ ?_
    show GO p e below T15 (mkF m 48 #[(VR a), (VR a)] [(.ref b15), (.ref b3)]) _
    refine st26.trans ?_
    show GO p e below T26 (mkF m 51 #[(VR a), (VR a)] [(.ref b3)]) _
    refine XS.aloadN X26.here hx rfl (B d32_51) rfl rfl ?_
    refine st35.trans ?_
    show GO p e below T35 (mkF m 55 #[(VR a), (VR a)] [(.ref b3)]) _
    refine st42 _ ?_
    show GO p e below T42 (mkF m 57 #[(VR a), (VR a)] [(.ref b42), (.ref b3)]) _
    refine st51.trans ?_
    show GO p e below T51 (mkF m 60 #[(VR a), (VR a)] [(.ref b3)]) _
    refine st56.trans ?_
    show GO p e below T56 (mkF m 63 #[(VR a), (VR a)] [(.ref rb56)]) _
    exact retOut X56 hx Bd.returns rfl (Or.inr (Or.inr (Or.inr (Or.inr ⟨rfl, rfl, rfl⟩)))) (B d32_63) hretL
  · show Q_rmqa Z a cs G1 fm h0 n0 _ T56.heap _
    exact ⟨_, rfl, N57, K59, Sr56⟩
def Q_rmqb (Z : State) (a : Addr) (cs : List Int32) (G1 : Int32) (fm : Value) (h0 : Heap) (n0 : Nat) (v : Option Value) (h : Heap) (L : List Loc) : Prop := ∃ b : Addr, v = some (.ref b) ∧ Fr n0 L ∧ Keep h0 h [] ∧ StrP Z h b (qs cs)
theorem ef_rmqb (m : MethodId) (a : Addr) : entryFrame m #[(.ref a)] 2 = mkF m 0 #[.val (.ref a), .unset] [] := by first | (simp [entryFrame, mkF, argsToLocals, Value.category]; done) | rfl
set_option maxRecDepth 65536 in
set_option maxHeartbeats 40000000 in
theorem rmqb (l : Launch) (Z : State) (a0 : Array Value) (hw : HW a0 Z) (ws : List Jvm.Cond) (a : Addr) (cs : List Int32) (G1 : Int32) (fm : Value) (h0 : Heap) (n0 : Nat) (O0 : Old Z n0 h0) (O2 : Sta Z Z.heap "java/lang/String" "COMPACT_STRINGS" "Z" (.int G1)) (P5 : ¬ (G1 = (0 : Int32))) (O4 : Sta Z Z.heap "jdk/internal/util/Preconditions" "SIOOBE_FORMATTER" "Ljava/util/function/BiFunction;" fm) (rf : fm.isRef = true) (Sa : StrP Z h0 a cs) (hn : 33 ≤ List.length cs) (hn2 : List.length cs ≤ 60) :
    MetFree l my33 (head1 (Jvm.Cond.code my33 prog_21_method_10_code 2 (some (.object "java/lang/String")) :: ws) ({ frames := 6, cells := 10, slots := 705, locals := 133 } : Room)) (fun aa U => aa = #[(.ref a)] ∧ Z.Warmed39 U.vm ∧ U.heap = h0 ∧ CHv Z EL0 U.vm h0) (fun _ _ _ _ _ => True) (fun _ U o U' => ∃ v L, o = .returned v ∧ Q_rmqb Z a cs G1 fm h0 n0 v U'.heap L ∧ CHr Z EL0 U.vm U.heap U'.vm U'.heap ∧ ReturnedEndW U o U' L ({ frames := 6, cells := 10, slots := 705, locals := 133 } : Room).cells ({ frames := 6, cells := 10, slots := 705, locals := 133 } : Room).slots) := by
  refine MetFree.of_bodySF (plainFor_of_name pn7) hisR ?_
  intro p e s m args below meth c s₁ Bd hml0 hP hK
  obtain ⟨rfl, hZ, hh, hCH⟩ := hP
  have hx := Bd.exec
  have hby := Bd.bytes
  have B := fun {pc : Nat} {r} (h : decode prog_21_method_10_code pc = r) => hb hby h
  have hml : c.maxLocals = 2 := hml0
  have hown : s.vm.findClass "com/example/atropos/atropos/io/CurveText" = some m.cls := findClass_of_methodNamed Bd.named
  have hnm := (name_of_methodNamed Bd.named Bd.method).1
  have X0 : Stand p l e ({ frames := 6, cells := 10, slots := 705, locals := 133 } : Room) (s.setVm s.vm) m #[(.ref a)] below meth c s₁ [] 0 0 := Stand.of_body Bd
  have e0 : s₁.heap = h0 := by rw [← hh, Bd.state]; rfl
  have N0 := Fr.nil n0
  have K0 : Keep h0 h0 [] := Keep.refl _ _
  have pre0 : ∀ tgt, Steps p.tables e below (s₁.setTop (mkF m 0 #[.val (.ref a), .unset] [])) tgt → Steps p.tables e below (s₁.setTop (entryFrame m #[(.ref a)] 2)) tgt := fun tgt kgo => castTop (ef_rmqb m a) kgo
  have hS0 : s.Since s.vm 0 := (State.WarmedH.refl s).since 0
  have hk0 : 0 ≤ h0.size := Nat.zero_le _
  have CH0 : CHr Z EL0 s.vm h0 s.vm h0 := CHr.refl hCH
  obtain ⟨sEA, sCA, spA, slA, tA, skA, sVA, sAA⟩ := id Sa
  obtain ⟨cq1, kq1, q1a, q1b, q1c⟩ := isOf hZ e0 sEA
  obtain ⟨_, _, ⟨T1, L1, k1, n1⟩, -, X1, ⟨Lc1, hQ1, l1, y1, z1⟩, st1⟩ := X0.virtualBack hx (y := my16) (z := my16) hown (mvT hZ (ow45 hw)) (mvT hZ (ow46 hw)) (notFace_of_selects (args := #[]) (mvT hZ (ow48 hw))) (mvT hZ (ow48 hw)) (mvT hZ (ow47 hw)) (by decide) (StrChars.Road.lenW (W := 0) hZ (own_wlen hw) (kI := 4) (ow13 hw) (cs := cs) sEA sVA sCA sAA (StrChars.Road.codOf rfl (fun c hc => (spA c hc).2)) (own_up _ spA) (O2.ext O0.2) P5 slA (by decide) (by decide)) q1a q1c (g := (mkF m 1 #[(VR a), .unset] [(.ref a)])) rfl (by rw [hml]; rfl) (Steps.refl _) (argsL := []) (rest := []) (lenOf pd9 rfl) rfl (w0 rfl rfl) (B d32_1) (fun _ _ => ⟨rfl, e0, (by decide : 0 + 0 ≤ _), (by decide : 0 + 0 ≤ _)⟩)
  dsimp only [Pt.U, Pt.locs, Pt.cells, Pt.slots] at X1 l1 y1 z1 st1 hQ1
  rw [l1, y1, z1] at X1
  obtain ⟨rfl, hL1, eq1⟩ := hQ1
  have Nq1 := own_frn hL1 n0
  have N2 := Fr.app N0 Nq1
  obtain ⟨T3, h3, X3, e3, E3, A3, D3, U3, st3⟩ := newO X1 hx hZ hown (ow55 hw) (ow56 hw) (ow57 hw) eq1 (g := (mkF m 39 #[(VR a), (VR a)] [])) rfl (B d32_39) (by decide) (by decide)
  obtain ⟨b3, g3⟩ : ∃ z, z = h0.size := ⟨_, rfl⟩
  rw [← g3] at A3 D3 U3 st3
  have gn3 : n0 ≤ b3 := Nat.le_trans (own_sz O0) (Nat.le_of_eq g3.symm)
  have sz3 : h0.size ≤ b3 := Nat.le_trans K0.1 (Nat.le_of_eq g3.symm)
  have nea_3 : a ≠ b3 := Nat.ne_of_lt (Nat.lt_of_lt_of_le sEA.lt (Nat.le_of_eq g3.symm))
  have netA_3 : tA ≠ b3 := Nat.ne_of_lt (Nat.lt_of_lt_of_le sAA.lt (Nat.le_of_eq g3.symm))
  have Y3 := Safe.ext E3 CH0.1 (Safe.new (x := b3) (Nat.le_of_eq g3.symm))
  have CH4 := CH0.trans (CHr.ext E3 CH0.1)
  have hk4 := Nat.le_trans hk0 E3.1
  have Ol5 := O0.ext E3
  have K5 := K0.ext E3
  have Fvalue_3 : Fld Z h3 b3 "java/lang/AbstractStringBuilder" "value" "[B" .null := D3 (Or.inl (ow70 hw)) (ty := (.array .byte)) (by decide)
  have Fcoder_3 : Fld Z h3 b3 "java/lang/AbstractStringBuilder" "coder" "B" (.int (0 : Int32)) := D3 (Or.inl (ow72 hw)) (ty := .byte) (by decide)
  have Fcount_3 : Fld Z h3 b3 "java/lang/AbstractStringBuilder" "count" "I" (.int (0 : Int32)) := D3 (Or.inl (ow88 hw)) (ty := .int) (by decide)
  have f6 := (sEA.ext E3)
  have f7 := (sAA.ext E3)
  obtain ⟨_, _, ⟨T8, L8, k8, n8⟩, -, X8, ⟨Lc8, hQ8, l8, y8, z8⟩, st8⟩ := X3.specialBack hx (y := my20) rfl hown (mvT hZ (ow58 hw)) (mvT hZ (ow59 hw)) (mvT hZ (ow60 hw)) (by decide) (backOf (W := 1) (rmsi l Z a0 hw [] b3 G1 h3 n0 Ol5 O2 P5 A3 Fvalue_3 Fcoder_3 Fcount_3 gn3) hZ (ow60 hw) (ow57 hw) (by decide) (by decide)) (g := (mkF m 43 #[(VR a), (VR a)] [(.ref b3), (.ref b3)])) rfl (by rw [hml]; rfl) (Steps.refl _) (a := b3) (argsL := []) (rest := [(.ref b3)]) (lenOf pd22 rfl) rfl (w0 rfl rfl) (B d32_43) (fun _ _ => ⟨rfl, e3, (by decide : 1 + 1 ≤ _), (by decide : 4 + 16 ≤ _)⟩)
  dsimp only [Pt.U, Pt.locs, Pt.cells, Pt.slots] at X8 l8 y8 z8 st8 hQ8
  rw [l8, y8, z8] at X8
  obtain ⟨tb8, kb8, rfl, Nq8, kp8, gn8, gz8, fv8, fc8, fn8, na8⟩ := hQ8
  have N9 := Fr.app N2 Nq8
  have CH10 := CH4.trans (CHr.keep kp8 (sfS Y3 sf0) CH4.1)
  have hk10 := Nat.le_trans hk4 kp8.1
  have Ol11 := Ol5.keep kp8 (allS gn3 all0)
  have K11 := K5.trans kp8 (allS (Or.inr sz3) all0)
  have gne8_a : a ≠ tb8 := Nat.ne_of_lt (Nat.lt_of_lt_of_le f6.lt gz8)
  have gne8_tA : tA ≠ tb8 := Nat.ne_of_lt (Nat.lt_of_lt_of_le f7.lt gz8)
  have gne8_b3 : b3 ≠ tb8 := Nat.ne_of_lt (Nat.lt_of_lt_of_le A3.lt gz8)
  have Yb8 := Safe.keep kp8 (sfS Y3 sf0) CH4.1 (Safe.new (x := tb8) gz8)
  have f12 := (f6.keep kp8)
  have f13 := (f7.keep kp8 (ninS netA_3 nin0))
  have f14 := (A3.keep kp8)
  obtain ⟨b15, T15, h15, kk15, d15, k15, X15, e15, E15, hS15, hk15, hZ15, hown15, Ex15, Fc15, Fv15, Av15, -, -, CR15, -, sn15, st15⟩ := ldcCH X8 hx hZ hown (ow73 hw) (own_wS hw) rfl hS0 hk10 (own_EW hw) (by decide) CH10.1 (vs := [(.int (34 : Int32))]) (z := (1 : Int32)) ⟨by decide, rfl⟩ (by decide) (by decide) (g := (mkF m 46 #[(VR a), (VR a)] [(.ref b3)])) rfl (B d32_46) (n := 4) (by decide) (by decide) (by decide) (by decide)
  have Ol16 := Ol11.ext E15
  have K16 := K11.ext E15
  have CH16 := CH10.trans CR15
  have f17 := (CHr.safe CR15 f14.lt (Safe.keep kp8 (sfS Y3 sf0) CH4.1 Y3))
  have sq15_2 := sn15 b3 f17
  have f18 := (CHr.safe CR15 na8.lt Yb8)
  have sq15_3 := sn15 tb8 f18
  have f19 := (f12.ext E15)
  have f20 := (f13.ext E15)
  have f21 := (f14.ext E15)
  have f22 := (na8.ext E15)
  have f23 := (fv8.ext E15)
  have f24 := (fc8.ext E15)
  have f25 := (fn8.ext E15)
  obtain ⟨cq26, kq26, q26a, q26b, q26c⟩ := isOf hZ15 e15 f21
  obtain ⟨_, _, ⟨T26, L26, k26, n26⟩, -, X26, ⟨Lc26, hQ26, l26, y26, z26⟩, st26⟩ := X15.virtualBack hx (y := my18) (z := my18) hown15 (mvT hZ15 (ow76 hw)) (mvT hZ15 (ow77 hw)) (notFace_of_selects (args := #[]) (mvT hZ15 (ow79 hw))) (mvT hZ15 (ow79 hw)) (mvT hZ15 (ow78 hw)) (by decide) (backOf (W := 0) (rmbn l Z a0 hw [] b3 b15 tb8 kb8 16 ([] : List Int32) [(34 : Int32)] G1 h15 n0 Ol16 O2 P5 f21 f23 f24 f25 f22 gn3 gn8 ⟨Ex15, Fc15, own_sp34, (by decide), d15, k15, Fv15, Av15⟩ (by first | (simp only [List.length_append, List.length_cons, List.length_nil, List.length_take] <;> omega) | omega) (by first | (simp only [List.length_append, List.length_cons, List.length_nil, List.length_take] <;> omega) | omega) (by first | (simp only [List.length_append, List.length_cons, List.length_nil, List.length_take] <;> omega) | omega)) hZ15 (ow80 hw) (ow57 hw) (by decide) (by decide)) q26a q26c (g := (mkF m 48 #[(VR a), (VR a)] [(.ref b15), (.ref b3)])) rfl (by rw [hml]; rfl) (Steps.refl _) (argsL := [(.ref b15)]) (rest := []) (lenOf pd23 rfl) rfl (w0 rfl rfl) (B d32_48) (fun _ _ => ⟨rfl, e15, (by decide : 4 + 0 ≤ _), (by decide : 28 + 0 ≤ _)⟩)
  dsimp only [Pt.U, Pt.locs, Pt.cells, Pt.slots] at X26 l26 y26 z26 st26 hQ26
  rw [l26, y26, z26] at X26
  obtain ⟨rfl, Nq26, kp26, fv26, fc26, fn26, na26⟩ := hQ26
  have N27 := Fr.app N9 Nq26
  have CH28 := CH16.trans (CHr.keep kp26 (sfS f17 (sfS f18 sf0)) CH16.1)
  have hk28 := Nat.le_trans hk15 kp26.1
  have Ol29 := Ol16.keep kp26 (allS gn3 (allS gn8 all0))
  have K29 := K16.trans kp26 (allS (Or.inr sz3) (allS (Or.inr (Nat.le_trans K5.1 gz8)) all0))
  have f30 := (f19.keep kp26)
  have f31 := (f20.keep kp26 (ninS netA_3 (ninS gne8_tA nin0)))
  have f32 := (f21.keep kp26)
  have f33 := ((((sCA.ext E3).keep kp8 (ninS nea_3 nin0)).ext E15).keep kp26 (ninS nea_3 (ninS gne8_a nin0)))
  have f34 := ((((sVA.ext E3).keep kp8 (ninS nea_3 nin0)).ext E15).keep kp26 (ninS nea_3 (ninS gne8_a nin0)))
  obtain ⟨cq35, kq35, q35a, q35b, q35c⟩ := isOf hZ15 rfl f32
  obtain ⟨_, _, ⟨T35, L35, k35, n35⟩, -, X35, ⟨Lc35, hQ35, l35, y35, z35⟩, st35⟩ := X26.virtualBack hx (y := my18) (z := my18) hown15 (mvT hZ15 (ow76 hw)) (mvT hZ15 (ow77 hw)) (notFace_of_selects (args := #[]) (mvT hZ15 (ow79 hw))) (mvT hZ15 (ow79 hw)) (mvT hZ15 (ow78 hw)) (by decide) (backOf (W := 0) (rmbg l Z a0 hw [] b3 a tb8 kb8 16 (([] : List Int32) ++ [(34 : Int32)]) cs G1 T26.heap n0 Ol29 O2 P5 f32 fv26 fc26 fn26 na26 gn3 gn8 ⟨f30, f33, spA, slA, tA, skA, f34, f31⟩ (by first | (simp only [List.length_append, List.length_cons, List.length_nil, List.length_take] <;> omega) | omega) (by first | (simp only [List.length_append, List.length_cons, List.length_nil, List.length_take] <;> omega) | omega) (by first | (simp only [List.length_append, List.length_cons, List.length_nil, List.length_take] <;> omega) | omega) (by first | (simp only [List.length_append, List.length_cons, List.length_nil, List.length_take] <;> omega) | omega)) hZ15 (ow80 hw) (ow57 hw) (by decide) (by decide)) q35a q35c (g := (mkF m 52 #[(VR a), (VR a)] [(.ref a), (.ref b3)])) rfl (by rw [hml]; rfl) (Steps.refl _) (argsL := [(.ref a)]) (rest := []) (lenOf pd23 rfl) rfl (w0 rfl rfl) (B d32_52) (fun _ _ => ⟨rfl, rfl, (by decide : 4 + 1 ≤ _), (by decide : 28 + 300 ≤ _)⟩)
  dsimp only [Pt.U, Pt.locs, Pt.cells, Pt.slots] at X35 l35 y35 z35 st35 hQ35
  rw [l35, y35, z35] at X35
  obtain ⟨tn35, kn35, rfl, Nq35, kp35, gn35, gz35, fv35, fc35, fn35, na35⟩ := hQ35
  have N36 := Fr.app N27 Nq35
  have f37 := (Safe.keep kp26 (sfS f17 (sfS f18 sf0)) CH16.1 f17)
  have CH38 := CH28.trans (CHr.keep kp35 (sfS f37 sf0) CH28.1)
  have hk38 := Nat.le_trans hk28 kp35.1
  have Ol39 := Ol29.keep kp35 (allS gn3 all0)
  have K39 := K29.trans kp35 (allS (Or.inr sz3) all0)
  have gne35_a : a ≠ tn35 := Nat.ne_of_lt (Nat.lt_of_lt_of_le f30.lt gz35)
  have gne35_tA : tA ≠ tn35 := Nat.ne_of_lt (Nat.lt_of_lt_of_le f31.lt gz35)
  have gne35_b3 : b3 ≠ tn35 := Nat.ne_of_lt (Nat.lt_of_lt_of_le f32.lt gz35)
  have gne35_tb8 : tb8 ≠ tn35 := Nat.ne_of_lt (Nat.lt_of_lt_of_le na26.lt gz35)
  have Yb35 := Safe.keep kp35 (sfS f37 sf0) CH28.1 (Safe.new (x := tn35) gz35)
  have f40 := (f32.keep kp35)
  have f41 := (na26.keep kp35 (ninS (Ne.symm gne8_b3) nin0))
  obtain ⟨b42, T42, h42, kk42, d42, k42, X42, e42, E42, hS42, hk42, hZ42, hown42, Ex42, Fc42, Fv42, Av42, -, -, CR42, -, sn42, st42⟩ := ldcCH X35 hx hZ15 hown15 (ow73 hw) (own_wS hw) rfl hS15 hk38 (own_EW hw) (by decide) CH38.1 (vs := [(.int (34 : Int32))]) (z := (1 : Int32)) ⟨by decide, rfl⟩ (by decide) (by decide) (g := (mkF m 55 #[(VR a), (VR a)] [(.ref b3)])) rfl (B d32_55) (n := 4) (by decide) (by decide) (by decide) (by decide)
  have Ol43 := Ol39.ext E42
  have K43 := K39.ext E42
  have CH43 := CH38.trans CR42
  have f44 := (CHr.safe CR42 f40.lt (Safe.keep kp35 (sfS f37 sf0) CH28.1 f37))
  have sq42_0 := sn42 b3 f44
  have f45 := (CHr.safe CR42 f41.lt (Safe.keep kp35 (sfS f37 sf0) CH28.1 (Safe.keep kp26 (sfS f17 (sfS f18 sf0)) CH16.1 f18)))
  have sq42_1 := sn42 tb8 f45
  have f46 := (CHr.safe CR42 na35.lt Yb35)
  have sq42_2 := sn42 tn35 f46
  have f47 := (f40.ext E42)
  have f48 := (f41.ext E42)
  have f49 := (na35.ext E42)
  have f50 := (fv35.ext E42)
  have f51 := (fc35.ext E42)
  have f52 := (fn35.ext E42)
  obtain ⟨cq53, kq53, q53a, q53b, q53c⟩ := isOf hZ42 e42 f47
  obtain ⟨_, _, ⟨T53, L53, k53, n53⟩, -, X53, ⟨Lc53, hQ53, l53, y53, z53⟩, st53⟩ := X42.virtualBack hx (y := my18) (z := my18) hown42 (mvT hZ42 (ow76 hw)) (mvT hZ42 (ow77 hw)) (notFace_of_selects (args := #[]) (mvT hZ42 (ow79 hw))) (mvT hZ42 (ow79 hw)) (mvT hZ42 (ow78 hw)) (by decide) (backOf (W := 0) (rmbg l Z a0 hw [] b3 b42 tn35 kn35 (16 + max ((List.length (([] : List Int32) ++ [(34 : Int32)]) + List.length cs) - 16) (16 + 2)) ((([] : List Int32) ++ [(34 : Int32)]) ++ cs) [(34 : Int32)] G1 h42 n0 Ol43 O2 P5 f47 f50 f51 f52 f49 gn3 gn35 ⟨Ex42, Fc42, own_sp34, (by decide), d42, k42, Fv42, Av42⟩ (by first | (simp only [List.length_append, List.length_cons, List.length_nil, List.length_take] <;> omega) | omega) (by first | (simp only [List.length_append, List.length_cons, List.length_nil, List.length_take] <;> omega) | omega) (by first | (simp only [List.length_append, List.length_cons, List.length_nil, List.length_take] <;> omega) | omega) (by first | (simp only [List.length_append, List.length_cons, List.length_nil, List.length_take] <;> omega) | omega)) hZ42 (ow80 hw) (ow57 hw) (by decide) (by decide)) q53a q53c (g := (mkF m 57 #[(VR a), (VR a)] [(.ref b42), (.ref b3)])) rfl (by rw [hml]; rfl) (Steps.refl _) (argsL := [(.ref b42)]) (rest := []) (lenOf pd23 rfl) rfl (w0 rfl rfl) (B d32_57) (fun _ _ => ⟨rfl, e42, (by decide : 7 + 1 ≤ _), (by decide : 336 + 300 ≤ _)⟩)
  dsimp only [Pt.U, Pt.locs, Pt.cells, Pt.slots] at X53 l53 y53 z53 st53 hQ53
  rw [l53, y53, z53] at X53
  obtain ⟨tn53, kn53, rfl, Nq53, kp53, gn53, gz53, fv53, fc53, fn53, na53⟩ := hQ53
  have N54 := Fr.app N36 Nq53
  have CH55 := CH43.trans (CHr.keep kp53 (sfS f44 sf0) CH43.1)
  have hk55 := Nat.le_trans hk42 kp53.1
  have Ol56 := Ol43.keep kp53 (allS gn3 all0)
  have K56 := K43.trans kp53 (allS (Or.inr sz3) all0)
  have gne53_b3 : b3 ≠ tn53 := Nat.ne_of_lt (Nat.lt_of_lt_of_le f47.lt gz53)
  have gne53_tb8 : tb8 ≠ tn53 := Nat.ne_of_lt (Nat.lt_of_lt_of_le f48.lt gz53)
  have gne53_tn35 : tn35 ≠ tn53 := Nat.ne_of_lt (Nat.lt_of_lt_of_le f49.lt gz53)
  have gne53_b42 : b42 ≠ tn53 := Nat.ne_of_lt (Nat.lt_of_lt_of_le Ex42.lt gz53)
  have gne53_d42 : d42 ≠ tn53 := Nat.ne_of_lt (Nat.lt_of_lt_of_le Av42.lt gz53)
  have Yb53 := Safe.keep kp53 (sfS f44 sf0) CH43.1 (Safe.new (x := tn53) gz53)
  have f57 := (f47.keep kp53)
  obtain ⟨cq58, kq58, q58a, q58b, q58c⟩ := isOf hZ42 rfl f57
  obtain ⟨_, _, ⟨T58, L58, k58, n58⟩, -, X58, ⟨Lc58, hQ58, l58, y58, z58⟩, st58⟩ := X53.virtualBack hx (y := my29) (z := my29) hown42 (mvT hZ42 (ow114 hw)) (mvT hZ42 (ow115 hw)) (notFace_of_selects (args := #[]) (mvT hZ42 (ow117 hw))) (mvT hZ42 (ow117 hw)) (mvT hZ42 (ow116 hw)) (by decide) (backOf (W := 0) (rmts l Z a0 hw [] b3 tn53 kn53 ((16 + max ((List.length (([] : List Int32) ++ [(34 : Int32)]) + List.length cs) - 16) (16 + 2)) + max ((List.length ((([] : List Int32) ++ [(34 : Int32)]) ++ cs) + List.length [(34 : Int32)]) - (16 + max ((List.length (([] : List Int32) ++ [(34 : Int32)]) + List.length cs) - 16) (16 + 2))) ((16 + max ((List.length (([] : List Int32) ++ [(34 : Int32)]) + List.length cs) - 16) (16 + 2)) + 2)) (((([] : List Int32) ++ [(34 : Int32)]) ++ cs) ++ [(34 : Int32)]) G1 T53.heap n0 Ol56 O2 P5 f57 fv53 fc53 fn53 na53 (own_spa (own_spa (own_spa own_nil own_sp34) spA) own_sp34) (by first | (simp only [List.length_append, List.length_cons, List.length_nil, List.length_take] <;> omega) | omega) (by first | (simp only [List.length_append, List.length_cons, List.length_nil, List.length_take] <;> omega) | omega) (by first | (simp only [List.length_append, List.length_cons, List.length_nil, List.length_take] <;> omega) | omega)) hZ42 (ow118 hw) (ow57 hw) (by decide) (by decide)) q58a q58c (g := (mkF m 60 #[(VR a), (VR a)] [(.ref b3)])) rfl (by rw [hml]; rfl) (Steps.refl _) (argsL := []) (rest := []) (lenOf pd24 rfl) rfl (w0 rfl rfl) (B d32_60) (fun _ _ => ⟨rfl, rfl, (by decide : 8 + 2 ≤ _), (by decide : 636 + 69 ≤ _)⟩)
  dsimp only [Pt.U, Pt.locs, Pt.cells, Pt.slots] at X58 l58 y58 z58 st58 hQ58
  rw [l58, y58, z58] at X58
  obtain ⟨rb58, rfl, Nq58, kp58, gb58, Sr58⟩ := hQ58
  have N59 := Fr.app N54 Nq58
  have CH60 := CH55.trans (CHr.keep kp58 sf0 CH55.1)
  have hk60 := Nat.le_trans hk55 kp58.1
  have Ol61 := Ol56.keep kp58 all0
  have K61 := K56.trans kp58 all0
  obtain ⟨sER58, sCR58, spR58, slR58, tR58, skR58, sVR58, sAR58⟩ := id Sr58
  obtain ⟨fs, hretL, hrun, hended, hEnd⟩ := Stand.leaveW X58 hS42 hk60 (v := some (.ref rb58)) (fun h => by rw [Bd.returns] at h; cases h)
  have hCf : CHr Z EL0 s.vm s.heap T58.vm T58.heap := by rw [hh]; exact CH60.trans (CHv.at X58 hZ42 (own_EW hw) CH60.1)
  refine ⟨_, _, pre0 _ ?_, hrun, hended, _, _, rfl, ?_, hCf, hEnd.1, hEnd.2.1, hEnd.2.2.1, hEnd.2.2.2.mono (by decide) (by decide)⟩
  · refine XS.aloadN X0.here hx rfl (B d32_0) rfl rfl ?_
    refine st1.trans ?_
    show GO p e below T1 (mkF m 4 #[(VR a), .unset] [(.int (Int32.ofNat (List.length cs)))]) _
    refine XS.bipush X1.here hx rfl (B d32_4) ?_
    refine XS.icmpYes X1.here hx rfl (pc0 := 6) (pc' := 37) rfl (B d32_6) rfl (flt (fun q => by have := (on_lt (i := 60) (by omega) (by omega)).mp q; omega)).2.2.2 (by decide) (by decide) ?_
    show GO p e below T1 (mkF m 37 #[(VR a), .unset] []) _
    refine XS.aloadN X1.here hx rfl (B d32_37) rfl rfl ?_
    refine XS.astoreN X1.here hx rfl (B d32_38) rfl rfl (l' := #[.val (.ref a), .val (.ref a)]) rfl ?_
    refine st3 _ ?_
    show GO p e below T3 (mkF m 42 #[(VR a), (VR a)] [(.ref b3)]) _
    refine XS.dup X3.here hx rfl (B d32_42) rfl rfl ?_
    refine st8.trans ?_
    show GO p e below T8 (mkF m 46 #[(VR a), (VR a)] [(.ref b3)]) _
    refine st15 _ ?_
    show GO p e below T15 (mkF m 48 #[(VR a), (VR a)] [(.ref b15), (.ref b3)]) _
    refine st26.trans ?_
    show GO p e below T26 (mkF m 51 #[(VR a), (VR a)] [(.ref b3)]) _
    refine XS.aloadN X26.here hx rfl (B d32_51) rfl rfl ?_
    refine st35.trans ?_
    show GO p e below T35 (mkF m 55 #[(VR a), (VR a)] [(.ref b3)]) _
    refine st42 _ ?_
    show GO p e below T42 (mkF m 57 #[(VR a), (VR a)] [(.ref b42), (.ref b3)]) _
    refine st53.trans ?_
    show GO p e below T53 (mkF m 60 #[(VR a), (VR a)] [(.ref b3)]) _
    refine st58.trans ?_
    show GO p e below T58 (mkF m 63 #[(VR a), (VR a)] [(.ref rb58)]) _
    exact retOut X58 hx Bd.returns rfl (Or.inr (Or.inr (Or.inr (Or.inr ⟨rfl, rfl, rfl⟩)))) (B d32_63) hretL
  · show Q_rmqb Z a cs G1 fm h0 n0 _ T58.heap _
    exact ⟨_, rfl, N59, K61, Sr58⟩
theorem d32_9 : decode prog_21_method_10_code 9 = .ok (.new 71, 3) := by decide +kernel
theorem d32_12 : decode prog_21_method_10_code 12 = .ok (.dup, 1) := by decide +kernel
theorem d32_13 : decode prog_21_method_10_code 13 = .ok (.invokespecial 73, 3) := by decide +kernel
theorem d32_16 : decode prog_21_method_10_code 16 = .ok (.aload_n 0, 1) := by decide +kernel
theorem d32_17 : decode prog_21_method_10_code 17 = .ok (.iconst 0, 1) := by decide +kernel
theorem d32_18 : decode prog_21_method_10_code 18 = .ok (.bipush 60, 2) := by decide +kernel
theorem d32_20 : decode prog_21_method_10_code 20 = .ok (.invokevirtual 103, 3) := by decide +kernel
theorem d32_23 : decode prog_21_method_10_code 23 = .ok (.invokevirtual 78, 3) := by decide +kernel
theorem d32_26 : decode prog_21_method_10_code 26 = .ok (.ldc 220, 2) := by decide +kernel
theorem d32_28 : decode prog_21_method_10_code 28 = .ok (.invokevirtual 78, 3) := by decide +kernel
theorem d32_31 : decode prog_21_method_10_code 31 = .ok (.invokevirtual 87, 3) := by decide +kernel
theorem d32_34 : decode prog_21_method_10_code 34 = .ok (.goto 4, 3) := by decide +kernel
def Q_rmql (Z : State) (a : Addr) (cs : List Int32) (G1 : Int32) (fm : Value) (h0 : Heap) (n0 : Nat) (v : Option Value) (h : Heap) (L : List Loc) : Prop := ∃ b : Addr, v = some (.ref b) ∧ Fr n0 L ∧ Keep h0 h [] ∧ StrP Z h b (ql cs)
theorem ef_rmql (m : MethodId) (a : Addr) : entryFrame m #[(.ref a)] 2 = mkF m 0 #[.val (.ref a), .unset] [] := by first | (simp [entryFrame, mkF, argsToLocals, Value.category]; done) | rfl
set_option maxRecDepth 65536 in
set_option maxHeartbeats 40000000 in
theorem rmql (l : Launch) (Z : State) (a0 : Array Value) (hw : HW a0 Z) (ws : List Jvm.Cond) (a : Addr) (cs : List Int32) (G1 : Int32) (fm : Value) (h0 : Heap) (n0 : Nat) (O0 : Old Z n0 h0) (O2 : Sta Z Z.heap "java/lang/String" "COMPACT_STRINGS" "Z" (.int G1)) (P5 : ¬ (G1 = (0 : Int32))) (O4 : Sta Z Z.heap "jdk/internal/util/Preconditions" "SIOOBE_FORMATTER" "Ljava/util/function/BiFunction;" fm) (rf : fm.isRef = true) (Sa : StrP Z h0 a cs) (hn : 60 < List.length cs) (hn2 : List.length cs ≤ 65) :
    MetFree l my33 (head1 (Jvm.Cond.code my33 prog_21_method_10_code 2 (some (.object "java/lang/String")) :: ws) ({ frames := 6, cells := 20, slots := 1479, locals := 133 } : Room)) (fun aa U => aa = #[(.ref a)] ∧ Z.Warmed39 U.vm ∧ U.heap = h0 ∧ CHv Z EL0 U.vm h0) (fun _ _ _ _ _ => True) (fun _ U o U' => ∃ v L, o = .returned v ∧ Q_rmql Z a cs G1 fm h0 n0 v U'.heap L ∧ CHr Z EL0 U.vm U.heap U'.vm U'.heap ∧ ReturnedEndW U o U' L ({ frames := 6, cells := 20, slots := 1479, locals := 133 } : Room).cells ({ frames := 6, cells := 20, slots := 1479, locals := 133 } : Room).slots) := by
  refine MetFree.of_bodySF (plainFor_of_name pn7) hisR ?_
  intro p e s m args below meth c s₁ Bd hml0 hP hK
  obtain ⟨rfl, hZ, hh, hCH⟩ := hP
  have hx := Bd.exec
  have hby := Bd.bytes
  have B := fun {pc : Nat} {r} (h : decode prog_21_method_10_code pc = r) => hb hby h
  have hml : c.maxLocals = 2 := hml0
  have hown : s.vm.findClass "com/example/atropos/atropos/io/CurveText" = some m.cls := findClass_of_methodNamed Bd.named
  have hnm := (name_of_methodNamed Bd.named Bd.method).1
  have X0 : Stand p l e ({ frames := 6, cells := 20, slots := 1479, locals := 133 } : Room) (s.setVm s.vm) m #[(.ref a)] below meth c s₁ [] 0 0 := Stand.of_body Bd
  have e0 : s₁.heap = h0 := by rw [← hh, Bd.state]; rfl
  have N0 := Fr.nil n0
  have K0 : Keep h0 h0 [] := Keep.refl _ _
  have pre0 : ∀ tgt, Steps p.tables e below (s₁.setTop (mkF m 0 #[.val (.ref a), .unset] [])) tgt → Steps p.tables e below (s₁.setTop (entryFrame m #[(.ref a)] 2)) tgt := fun tgt kgo => castTop (ef_rmql m a) kgo
  have hS0 : s.Since s.vm 0 := (State.WarmedH.refl s).since 0
  have hk0 : 0 ≤ h0.size := Nat.zero_le _
  have CH0 : CHr Z EL0 s.vm h0 s.vm h0 := CHr.refl hCH
  obtain ⟨sEA, sCA, spA, slA, tA, skA, sVA, sAA⟩ := id Sa
  obtain ⟨cq1, kq1, q1a, q1b, q1c⟩ := isOf hZ e0 sEA
  obtain ⟨_, _, ⟨T1, L1, k1, n1⟩, -, X1, ⟨Lc1, hQ1, l1, y1, z1⟩, st1⟩ := X0.virtualBack hx (y := my16) (z := my16) hown (mvT hZ (ow45 hw)) (mvT hZ (ow46 hw)) (notFace_of_selects (args := #[]) (mvT hZ (ow48 hw))) (mvT hZ (ow48 hw)) (mvT hZ (ow47 hw)) (by decide) (StrChars.Road.lenW (W := 0) hZ (own_wlen hw) (kI := 4) (ow13 hw) (cs := cs) sEA sVA sCA sAA (StrChars.Road.codOf rfl (fun c hc => (spA c hc).2)) (own_up _ spA) (O2.ext O0.2) P5 slA (by decide) (by decide)) q1a q1c (g := (mkF m 1 #[(VR a), .unset] [(.ref a)])) rfl (by rw [hml]; rfl) (Steps.refl _) (argsL := []) (rest := []) (lenOf pd9 rfl) rfl (w0 rfl rfl) (B d32_1) (fun _ _ => ⟨rfl, e0, (by decide : 0 + 0 ≤ _), (by decide : 0 + 0 ≤ _)⟩)
  dsimp only [Pt.U, Pt.locs, Pt.cells, Pt.slots] at X1 l1 y1 z1 st1 hQ1
  rw [l1, y1, z1] at X1
  obtain ⟨rfl, hL1, eq1⟩ := hQ1
  have Nq1 := own_frn hL1 n0
  have N2 := Fr.app N0 Nq1
  obtain ⟨T3, h3, X3, e3, E3, A3, D3, U3, st3⟩ := newO X1 hx hZ hown (ow55 hw) (ow56 hw) (ow57 hw) eq1 (g := (mkF m 9 #[(VR a), .unset] [])) rfl (B d32_9) (by decide) (by decide)
  obtain ⟨b3, g3⟩ : ∃ z, z = h0.size := ⟨_, rfl⟩
  rw [← g3] at A3 D3 U3 st3
  have gn3 : n0 ≤ b3 := Nat.le_trans (own_sz O0) (Nat.le_of_eq g3.symm)
  have sz3 : h0.size ≤ b3 := Nat.le_trans K0.1 (Nat.le_of_eq g3.symm)
  have nea_3 : a ≠ b3 := Nat.ne_of_lt (Nat.lt_of_lt_of_le sEA.lt (Nat.le_of_eq g3.symm))
  have netA_3 : tA ≠ b3 := Nat.ne_of_lt (Nat.lt_of_lt_of_le sAA.lt (Nat.le_of_eq g3.symm))
  have Y3 := Safe.ext E3 CH0.1 (Safe.new (x := b3) (Nat.le_of_eq g3.symm))
  have CH4 := CH0.trans (CHr.ext E3 CH0.1)
  have hk4 := Nat.le_trans hk0 E3.1
  have Ol5 := O0.ext E3
  have K5 := K0.ext E3
  have Fvalue_3 : Fld Z h3 b3 "java/lang/AbstractStringBuilder" "value" "[B" .null := D3 (Or.inl (ow70 hw)) (ty := (.array .byte)) (by decide)
  have Fcoder_3 : Fld Z h3 b3 "java/lang/AbstractStringBuilder" "coder" "B" (.int (0 : Int32)) := D3 (Or.inl (ow72 hw)) (ty := .byte) (by decide)
  have Fcount_3 : Fld Z h3 b3 "java/lang/AbstractStringBuilder" "count" "I" (.int (0 : Int32)) := D3 (Or.inl (ow88 hw)) (ty := .int) (by decide)
  have f6 := (sEA.ext E3)
  have f7 := (sAA.ext E3)
  obtain ⟨_, _, ⟨T8, L8, k8, n8⟩, -, X8, ⟨Lc8, hQ8, l8, y8, z8⟩, st8⟩ := X3.specialBack hx (y := my20) rfl hown (mvT hZ (ow58 hw)) (mvT hZ (ow59 hw)) (mvT hZ (ow60 hw)) (by decide) (backOf (W := 1) (rmsi l Z a0 hw [] b3 G1 h3 n0 Ol5 O2 P5 A3 Fvalue_3 Fcoder_3 Fcount_3 gn3) hZ (ow60 hw) (ow57 hw) (by decide) (by decide)) (g := (mkF m 13 #[(VR a), .unset] [(.ref b3), (.ref b3)])) rfl (by rw [hml]; rfl) (Steps.refl _) (a := b3) (argsL := []) (rest := [(.ref b3)]) (lenOf pd22 rfl) rfl (w0 rfl rfl) (B d32_13) (fun _ _ => ⟨rfl, e3, (by decide : 1 + 1 ≤ _), (by decide : 4 + 16 ≤ _)⟩)
  dsimp only [Pt.U, Pt.locs, Pt.cells, Pt.slots] at X8 l8 y8 z8 st8 hQ8
  rw [l8, y8, z8] at X8
  obtain ⟨tb8, kb8, rfl, Nq8, kp8, gn8, gz8, fv8, fc8, fn8, na8⟩ := hQ8
  have N9 := Fr.app N2 Nq8
  have CH10 := CH4.trans (CHr.keep kp8 (sfS Y3 sf0) CH4.1)
  have hk10 := Nat.le_trans hk4 kp8.1
  have Ol11 := Ol5.keep kp8 (allS gn3 all0)
  have K11 := K5.trans kp8 (allS (Or.inr sz3) all0)
  have gne8_a : a ≠ tb8 := Nat.ne_of_lt (Nat.lt_of_lt_of_le f6.lt gz8)
  have gne8_tA : tA ≠ tb8 := Nat.ne_of_lt (Nat.lt_of_lt_of_le f7.lt gz8)
  have gne8_b3 : b3 ≠ tb8 := Nat.ne_of_lt (Nat.lt_of_lt_of_le A3.lt gz8)
  have Yb8 := Safe.keep kp8 (sfS Y3 sf0) CH4.1 (Safe.new (x := tb8) gz8)
  have f12 := (f6.keep kp8)
  have f13 := ((sCA.ext E3).keep kp8 (ninS nea_3 nin0))
  have f14 := ((sVA.ext E3).keep kp8 (ninS nea_3 nin0))
  have f15 := (f7.keep kp8 (ninS netA_3 nin0))
  obtain ⟨cq16, kq16, q16a, q16b, q16c⟩ := isOf hZ rfl f12
  obtain ⟨_, _, ⟨T16, L16, k16, n16⟩, -, X16, ⟨Lc16, hQ16, l16, y16, z16⟩, st16⟩ := X8.virtualBack hx (y := my32) (z := my32) hown (mvT hZ (ow183 hw)) (mvT hZ (ow184 hw)) (notFace_of_selects (args := #[]) (mvT hZ (ow186 hw))) (mvT hZ (ow186 hw)) (mvT hZ (ow185 hw)) (by decide) (backOf (W := 1) (rmsub l Z a0 hw [] a cs G1 fm T8.heap n0 Ol11 O2 P5 O4 rf ⟨f12, f13, spA, slA, tA, skA, f14, f15⟩ hn hn2) hZ (ow187 hw) (ow14 hw) (by decide) (by decide)) q16a q16c (g := (mkF m 20 #[(VR a), .unset] [(.int 60), (.int 0), (.ref a), (.ref b3)])) rfl (by rw [hml]; rfl) (Steps.refl _) (argsL := [(.int 0), (.int 60)]) (rest := [(.ref b3)]) (lenOf pd25 rfl) rfl (w0 rfl rfl) (B d32_20) (fun _ _ => ⟨rfl, rfl, (by decide : 2 + 2 ≤ _), (by decide : 20 + 69 ≤ _)⟩)
  dsimp only [Pt.U, Pt.locs, Pt.cells, Pt.slots] at X16 l16 y16 z16 st16 hQ16
  rw [l16, y16, z16] at X16
  obtain ⟨ub16, rfl, Nq16, kp16, Su16⟩ := hQ16
  have N17 := Fr.app N9 Nq16
  have CH18 := CH10.trans (CHr.keep kp16 sf0 CH10.1)
  have hk18 := Nat.le_trans hk10 kp16.1
  have Ol19 := Ol11.keep kp16 all0
  have K19 := K11.trans kp16 all0
  obtain ⟨sEU, sCU, spU, slU, tU, skU, sVU, sAU⟩ := id Su16
  have f20 := ((A3.keep kp8).keep kp16)
  have neu1 : b3 ≠ ub16 := Exa.ne f20 sEU (by decide)
  have neu2 : b3 ≠ tU := Exa.neArv f20 sAU (ow56 hw)
  have f21 := (na8.keep kp16 nin0)
  have f22 := (fv8.keep kp16 nin0)
  have f23 := (fc8.keep kp16 nin0)
  have f24 := (fn8.keep kp16 nin0)
  obtain ⟨cq25, kq25, q25a, q25b, q25c⟩ := isOf hZ rfl f20
  obtain ⟨_, _, ⟨T25, L25, k25, n25⟩, -, X25, ⟨Lc25, hQ25, l25, y25, z25⟩, st25⟩ := X16.virtualBack hx (y := my18) (z := my18) hown (mvT hZ (ow76 hw)) (mvT hZ (ow77 hw)) (notFace_of_selects (args := #[]) (mvT hZ (ow79 hw))) (mvT hZ (ow79 hw)) (mvT hZ (ow78 hw)) (by decide) (backOf (W := 0) (rmbg l Z a0 hw [] b3 ub16 tb8 kb8 16 ([] : List Int32) (List.take 60 cs) G1 T16.heap n0 Ol19 O2 P5 f20 f22 f23 f24 f21 gn3 gn8 ⟨sEU, sCU, spU, slU, tU, skU, sVU, sAU⟩ (by first | (simp only [List.length_append, List.length_cons, List.length_nil, List.length_take] <;> omega) | omega) (by first | (simp only [List.length_append, List.length_cons, List.length_nil, List.length_take] <;> omega) | omega) (by first | (simp only [List.length_append, List.length_cons, List.length_nil, List.length_take] <;> omega) | omega) (by first | (simp only [List.length_append, List.length_cons, List.length_nil, List.length_take] <;> omega) | omega)) hZ (ow80 hw) (ow57 hw) (by decide) (by decide)) q25a q25c (g := (mkF m 23 #[(VR a), .unset] [(.ref ub16), (.ref b3)])) rfl (by rw [hml]; rfl) (Steps.refl _) (argsL := [(.ref ub16)]) (rest := []) (lenOf pd23 rfl) rfl (w0 rfl rfl) (B d32_23) (fun _ _ => ⟨rfl, rfl, (by decide : 4 + 1 ≤ _), (by decide : 89 + 300 ≤ _)⟩)
  dsimp only [Pt.U, Pt.locs, Pt.cells, Pt.slots] at X25 l25 y25 z25 st25 hQ25
  rw [l25, y25, z25] at X25
  obtain ⟨tn25, kn25, rfl, Nq25, kp25, gn25, gz25, fv25, fc25, fn25, na25⟩ := hQ25
  have N26 := Fr.app N17 Nq25
  have f27 := (Safe.keep kp16 sf0 CH10.1 (Safe.keep kp8 (sfS Y3 sf0) CH4.1 Y3))
  have CH28 := CH18.trans (CHr.keep kp25 (sfS f27 sf0) CH18.1)
  have hk28 := Nat.le_trans hk18 kp25.1
  have Ol29 := Ol19.keep kp25 (allS gn3 all0)
  have K29 := K19.trans kp25 (allS (Or.inr sz3) all0)
  have gne25_b3 : b3 ≠ tn25 := Nat.ne_of_lt (Nat.lt_of_lt_of_le f20.lt gz25)
  have gne25_tb8 : tb8 ≠ tn25 := Nat.ne_of_lt (Nat.lt_of_lt_of_le f21.lt gz25)
  have gne25_ub16 : ub16 ≠ tn25 := Nat.ne_of_lt (Nat.lt_of_lt_of_le sEU.lt gz25)
  have gne25_tU : tU ≠ tn25 := Nat.ne_of_lt (Nat.lt_of_lt_of_le sAU.lt gz25)
  have Yb25 := Safe.keep kp25 (sfS f27 sf0) CH18.1 (Safe.new (x := tn25) gz25)
  have f30 := (f20.keep kp25)
  have f31 := (f21.keep kp25 (ninS (Ne.symm gne8_b3) nin0))
  obtain ⟨b32, T32, h32, kk32, d32, k32, X32, e32, E32, hS32, hk32, hZ32, hown32, Ex32, Fc32, Fv32, Av32, -, -, CR32, -, sn32, st32⟩ := ldcCH X25 hx hZ hown (ow210 hw) (own_wS hw) rfl hS0 hk28 (own_EW hw) (by decide) CH28.1 (vs := [(.int (46 : Int32)), (.int (46 : Int32)), (.int (46 : Int32))]) (z := (3 : Int32)) ⟨by decide, rfl⟩ (by decide) (by decide) (g := (mkF m 26 #[(VR a), .unset] [(.ref b3)])) rfl (B d32_26) (n := 12) (by decide) (by decide) (by decide) (by decide)
  have Ol33 := Ol29.ext E32
  have K33 := K29.ext E32
  have CH33 := CH28.trans CR32
  have f34 := (CHr.safe CR32 f30.lt (Safe.keep kp25 (sfS f27 sf0) CH18.1 f27))
  have sq32_0 := sn32 b3 f34
  have f35 := (CHr.safe CR32 f31.lt (Safe.keep kp25 (sfS f27 sf0) CH18.1 (Safe.keep kp16 sf0 CH10.1 Yb8)))
  have sq32_1 := sn32 tb8 f35
  have f36 := (CHr.safe CR32 na25.lt Yb25)
  have sq32_2 := sn32 tn25 f36
  have f37 := (f30.ext E32)
  have f38 := (f31.ext E32)
  have f39 := (na25.ext E32)
  have f40 := (fv25.ext E32)
  have f41 := (fc25.ext E32)
  have f42 := (fn25.ext E32)
  obtain ⟨cq43, kq43, q43a, q43b, q43c⟩ := isOf hZ32 e32 f37
  obtain ⟨_, _, ⟨T43, L43, k43, n43⟩, -, X43, ⟨Lc43, hQ43, l43, y43, z43⟩, st43⟩ := X32.virtualBack hx (y := my18) (z := my18) hown32 (mvT hZ32 (ow76 hw)) (mvT hZ32 (ow77 hw)) (notFace_of_selects (args := #[]) (mvT hZ32 (ow79 hw))) (mvT hZ32 (ow79 hw)) (mvT hZ32 (ow78 hw)) (by decide) (backOf (W := 0) (rmbg l Z a0 hw [] b3 b32 tn25 kn25 (16 + max ((List.length ([] : List Int32) + List.length (List.take 60 cs)) - 16) (16 + 2)) (([] : List Int32) ++ (List.take 60 cs)) [(46 : Int32), (46 : Int32), (46 : Int32)] G1 h32 n0 Ol33 O2 P5 f37 f40 f41 f42 f39 gn3 gn25 ⟨Ex32, Fc32, own_sp46, (by decide), d32, k32, Fv32, Av32⟩ (by first | (simp only [List.length_append, List.length_cons, List.length_nil, List.length_take] <;> omega) | omega) (by first | (simp only [List.length_append, List.length_cons, List.length_nil, List.length_take] <;> omega) | omega) (by first | (simp only [List.length_append, List.length_cons, List.length_nil, List.length_take] <;> omega) | omega) (by first | (simp only [List.length_append, List.length_cons, List.length_nil, List.length_take] <;> omega) | omega)) hZ32 (ow80 hw) (ow57 hw) (by decide) (by decide)) q43a q43c (g := (mkF m 28 #[(VR a), .unset] [(.ref b32), (.ref b3)])) rfl (by rw [hml]; rfl) (Steps.refl _) (argsL := [(.ref b32)]) (rest := []) (lenOf pd23 rfl) rfl (w0 rfl rfl) (B d32_28) (fun _ _ => ⟨rfl, e32, (by decide : 7 + 1 ≤ _), (by decide : 405 + 300 ≤ _)⟩)
  dsimp only [Pt.U, Pt.locs, Pt.cells, Pt.slots] at X43 l43 y43 z43 st43 hQ43
  rw [l43, y43, z43] at X43
  obtain ⟨tn43, kn43, rfl, Nq43, kp43, gn43, gz43, fv43, fc43, fn43, na43⟩ := hQ43
  have N44 := Fr.app N26 Nq43
  have CH45 := CH33.trans (CHr.keep kp43 (sfS f34 sf0) CH33.1)
  have hk45 := Nat.le_trans hk32 kp43.1
  have Ol46 := Ol33.keep kp43 (allS gn3 all0)
  have K46 := K33.trans kp43 (allS (Or.inr sz3) all0)
  have gne43_b3 : b3 ≠ tn43 := Nat.ne_of_lt (Nat.lt_of_lt_of_le f37.lt gz43)
  have gne43_tb8 : tb8 ≠ tn43 := Nat.ne_of_lt (Nat.lt_of_lt_of_le f38.lt gz43)
  have gne43_tn25 : tn25 ≠ tn43 := Nat.ne_of_lt (Nat.lt_of_lt_of_le f39.lt gz43)
  have gne43_b32 : b32 ≠ tn43 := Nat.ne_of_lt (Nat.lt_of_lt_of_le Ex32.lt gz43)
  have gne43_d32 : d32 ≠ tn43 := Nat.ne_of_lt (Nat.lt_of_lt_of_le Av32.lt gz43)
  have Yb43 := Safe.keep kp43 (sfS f34 sf0) CH33.1 (Safe.new (x := tn43) gz43)
  have f47 := (f37.keep kp43)
  obtain ⟨cq48, kq48, q48a, q48b, q48c⟩ := isOf hZ32 rfl f47
  obtain ⟨_, _, ⟨T48, L48, k48, n48⟩, -, X48, ⟨Lc48, hQ48, l48, y48, z48⟩, st48⟩ := X43.virtualBack hx (y := my29) (z := my29) hown32 (mvT hZ32 (ow114 hw)) (mvT hZ32 (ow115 hw)) (notFace_of_selects (args := #[]) (mvT hZ32 (ow117 hw))) (mvT hZ32 (ow117 hw)) (mvT hZ32 (ow116 hw)) (by decide) (backOf (W := 0) (rmts l Z a0 hw [] b3 tn43 kn43 ((16 + max ((List.length ([] : List Int32) + List.length (List.take 60 cs)) - 16) (16 + 2)) + max ((List.length (([] : List Int32) ++ (List.take 60 cs)) + List.length [(46 : Int32), (46 : Int32), (46 : Int32)]) - (16 + max ((List.length ([] : List Int32) + List.length (List.take 60 cs)) - 16) (16 + 2))) ((16 + max ((List.length ([] : List Int32) + List.length (List.take 60 cs)) - 16) (16 + 2)) + 2)) ((([] : List Int32) ++ (List.take 60 cs)) ++ [(46 : Int32), (46 : Int32), (46 : Int32)]) G1 T43.heap n0 Ol46 O2 P5 f47 fv43 fc43 fn43 na43 (own_spa (own_spa own_nil spU) own_sp46) (by first | (simp only [List.length_append, List.length_cons, List.length_nil, List.length_take] <;> omega) | omega) (by first | (simp only [List.length_append, List.length_cons, List.length_nil, List.length_take] <;> omega) | omega) (by first | (simp only [List.length_append, List.length_cons, List.length_nil, List.length_take] <;> omega) | omega)) hZ32 (ow118 hw) (ow57 hw) (by decide) (by decide)) q48a q48c (g := (mkF m 31 #[(VR a), .unset] [(.ref b3)])) rfl (by rw [hml]; rfl) (Steps.refl _) (argsL := []) (rest := []) (lenOf pd24 rfl) rfl (w0 rfl rfl) (B d32_31) (fun _ _ => ⟨rfl, rfl, (by decide : 8 + 2 ≤ _), (by decide : 705 + 69 ≤ _)⟩)
  dsimp only [Pt.U, Pt.locs, Pt.cells, Pt.slots] at X48 l48 y48 z48 st48 hQ48
  rw [l48, y48, z48] at X48
  obtain ⟨rb48, rfl, Nq48, kp48, gb48, Sr48⟩ := hQ48
  have N49 := Fr.app N44 Nq48
  have CH50 := CH45.trans (CHr.keep kp48 sf0 CH45.1)
  have hk50 := Nat.le_trans hk45 kp48.1
  have Ol51 := Ol46.keep kp48 all0
  have K51 := K46.trans kp48 all0
  obtain ⟨sER48, sCR48, spR48, slR48, tR48, skR48, sVR48, sAR48⟩ := id Sr48
  have f52 := ((f38.keep kp43 (ninS (Ne.symm gne8_b3) nin0)).keep kp48 nin0)
  have f53 := ((f39.keep kp43 (ninS (Ne.symm gne25_b3) nin0)).keep kp48 nin0)
  obtain ⟨T54, h54, X54, e54, E54, A54, D54, U54, st54⟩ := newO X48 hx hZ32 hown32 (ow55 hw) (ow56 hw) (ow57 hw) rfl (g := (mkF m 39 #[(VR a), (VR rb48)] [])) rfl (B d32_39) (by decide) (by decide)
  obtain ⟨b54, g54⟩ : ∃ z, z = T48.heap.size := ⟨_, rfl⟩
  rw [← g54] at A54 D54 U54 st54
  have gn54 : n0 ≤ b54 := Nat.le_trans (own_sz Ol51) (Nat.le_of_eq g54.symm)
  have sz54 : h0.size ≤ b54 := Nat.le_trans K51.1 (Nat.le_of_eq g54.symm)
  have netb8_54 : tb8 ≠ b54 := Nat.ne_of_lt (Nat.lt_of_lt_of_le f52.lt (Nat.le_of_eq g54.symm))
  have netn25_54 : tn25 ≠ b54 := Nat.ne_of_lt (Nat.lt_of_lt_of_le f53.lt (Nat.le_of_eq g54.symm))
  have nerb48_54 : rb48 ≠ b54 := Nat.ne_of_lt (Nat.lt_of_lt_of_le sER48.lt (Nat.le_of_eq g54.symm))
  have netR48_54 : tR48 ≠ b54 := Nat.ne_of_lt (Nat.lt_of_lt_of_le sAR48.lt (Nat.le_of_eq g54.symm))
  have Y54 := Safe.ext E54 CH50.1 (Safe.new (x := b54) (Nat.le_of_eq g54.symm))
  have CH55 := CH50.trans (CHr.ext E54 CH50.1)
  have hk55 := Nat.le_trans hk50 E54.1
  have Ol56 := Ol51.ext E54
  have K56 := K51.ext E54
  have Fvalue_54 : Fld Z h54 b54 "java/lang/AbstractStringBuilder" "value" "[B" .null := D54 (Or.inl (ow70 hw)) (ty := (.array .byte)) (by decide)
  have Fcoder_54 : Fld Z h54 b54 "java/lang/AbstractStringBuilder" "coder" "B" (.int (0 : Int32)) := D54 (Or.inl (ow72 hw)) (ty := .byte) (by decide)
  have Fcount_54 : Fld Z h54 b54 "java/lang/AbstractStringBuilder" "count" "I" (.int (0 : Int32)) := D54 (Or.inl (ow88 hw)) (ty := .int) (by decide)
  have f57 := (f52.ext E54)
  have f58 := (f53.ext E54)
  have f59 := (sER48.ext E54)
  have f60 := (sAR48.ext E54)
  obtain ⟨_, _, ⟨T61, L61, k61, n61⟩, -, X61, ⟨Lc61, hQ61, l61, y61, z61⟩, st61⟩ := X54.specialBack hx (y := my20) rfl hown32 (mvT hZ32 (ow58 hw)) (mvT hZ32 (ow59 hw)) (mvT hZ32 (ow60 hw)) (by decide) (backOf (W := 1) (rmsi l Z a0 hw [] b54 G1 h54 n0 Ol56 O2 P5 A54 Fvalue_54 Fcoder_54 Fcount_54 gn54) hZ32 (ow60 hw) (ow57 hw) (by decide) (by decide)) (g := (mkF m 43 #[(VR a), (VR rb48)] [(.ref b54), (.ref b54)])) rfl (by rw [hml]; rfl) (Steps.refl _) (a := b54) (argsL := []) (rest := [(.ref b54)]) (lenOf pd22 rfl) rfl (w0 rfl rfl) (B d32_43) (fun _ _ => ⟨rfl, e54, (by decide : 11 + 1 ≤ _), (by decide : 778 + 16 ≤ _)⟩)
  dsimp only [Pt.U, Pt.locs, Pt.cells, Pt.slots] at X61 l61 y61 z61 st61 hQ61
  rw [l61, y61, z61] at X61
  obtain ⟨tb61, kb61, rfl, Nq61, kp61, gn61, gz61, fv61, fc61, fn61, na61⟩ := hQ61
  have N62 := Fr.app N49 Nq61
  have CH63 := CH55.trans (CHr.keep kp61 (sfS Y54 sf0) CH55.1)
  have hk63 := Nat.le_trans hk55 kp61.1
  have Ol64 := Ol56.keep kp61 (allS gn54 all0)
  have K64 := K56.trans kp61 (allS (Or.inr sz54) all0)
  have gne61_tb8 : tb8 ≠ tb61 := Nat.ne_of_lt (Nat.lt_of_lt_of_le f57.lt gz61)
  have gne61_tn25 : tn25 ≠ tb61 := Nat.ne_of_lt (Nat.lt_of_lt_of_le f58.lt gz61)
  have gne61_rb48 : rb48 ≠ tb61 := Nat.ne_of_lt (Nat.lt_of_lt_of_le f59.lt gz61)
  have gne61_tR48 : tR48 ≠ tb61 := Nat.ne_of_lt (Nat.lt_of_lt_of_le f60.lt gz61)
  have gne61_b54 : b54 ≠ tb61 := Nat.ne_of_lt (Nat.lt_of_lt_of_le A54.lt gz61)
  have Yb61 := Safe.keep kp61 (sfS Y54 sf0) CH55.1 (Safe.new (x := tb61) gz61)
  have f65 := (f57.keep kp61 (ninS netb8_54 nin0))
  have f66 := (f58.keep kp61 (ninS netn25_54 nin0))
  have f67 := (f59.keep kp61)
  have f68 := (f60.keep kp61 (ninS netR48_54 nin0))
  have f69 := (A54.keep kp61)
  obtain ⟨b70, T70, h70, kk70, d70, k70, X70, e70, E70, hS70, hk70, hZ70, hown70, Ex70, Fc70, Fv70, Av70, -, -, CR70, -, sn70, st70⟩ := ldcCH X61 hx hZ32 hown32 (ow73 hw) (own_wS hw) rfl hS32 hk63 (own_EW hw) (by decide) CH63.1 (vs := [(.int (34 : Int32))]) (z := (1 : Int32)) ⟨by decide, rfl⟩ (by decide) (by decide) (g := (mkF m 46 #[(VR a), (VR rb48)] [(.ref b54)])) rfl (B d32_46) (n := 4) (by decide) (by decide) (by decide) (by decide)
  have Ol71 := Ol64.ext E70
  have K71 := K64.ext E70
  have CH71 := CH63.trans CR70
  have f72 := (CHr.safe CR70 f65.lt (Safe.keep kp61 (sfS Y54 sf0) CH55.1 (Safe.ext E54 CH50.1 (Safe.keep kp48 sf0 CH45.1 (Safe.keep kp43 (sfS f34 sf0) CH33.1 f35)))))
  have sq70_0 := sn70 tb8 f72
  have f73 := (CHr.safe CR70 f66.lt (Safe.keep kp61 (sfS Y54 sf0) CH55.1 (Safe.ext E54 CH50.1 (Safe.keep kp48 sf0 CH45.1 (Safe.keep kp43 (sfS f34 sf0) CH33.1 f36)))))
  have sq70_1 := sn70 tn25 f73
  have f74 := (CHr.safe CR70 f69.lt (Safe.keep kp61 (sfS Y54 sf0) CH55.1 Y54))
  have sq70_4 := sn70 b54 f74
  have f75 := (CHr.safe CR70 na61.lt Yb61)
  have sq70_5 := sn70 tb61 f75
  have f76 := (f65.ext E70)
  have f77 := (f66.ext E70)
  have f78 := (f67.ext E70)
  have f79 := (f68.ext E70)
  have f80 := (f69.ext E70)
  have f81 := (na61.ext E70)
  have f82 := (fv61.ext E70)
  have f83 := (fc61.ext E70)
  have f84 := (fn61.ext E70)
  obtain ⟨cq85, kq85, q85a, q85b, q85c⟩ := isOf hZ70 e70 f80
  obtain ⟨_, _, ⟨T85, L85, k85, n85⟩, -, X85, ⟨Lc85, hQ85, l85, y85, z85⟩, st85⟩ := X70.virtualBack hx (y := my18) (z := my18) hown70 (mvT hZ70 (ow76 hw)) (mvT hZ70 (ow77 hw)) (notFace_of_selects (args := #[]) (mvT hZ70 (ow79 hw))) (mvT hZ70 (ow79 hw)) (mvT hZ70 (ow78 hw)) (by decide) (backOf (W := 0) (rmbn l Z a0 hw [] b54 b70 tb61 kb61 16 ([] : List Int32) [(34 : Int32)] G1 h70 n0 Ol71 O2 P5 f80 f82 f83 f84 f81 gn54 gn61 ⟨Ex70, Fc70, own_sp34, (by decide), d70, k70, Fv70, Av70⟩ (by first | (simp only [List.length_append, List.length_cons, List.length_nil, List.length_take] <;> omega) | omega) (by first | (simp only [List.length_append, List.length_cons, List.length_nil, List.length_take] <;> omega) | omega) (by first | (simp only [List.length_append, List.length_cons, List.length_nil, List.length_take] <;> omega) | omega)) hZ70 (ow80 hw) (ow57 hw) (by decide) (by decide)) q85a q85c (g := (mkF m 48 #[(VR a), (VR rb48)] [(.ref b70), (.ref b54)])) rfl (by rw [hml]; rfl) (Steps.refl _) (argsL := [(.ref b70)]) (rest := []) (lenOf pd23 rfl) rfl (w0 rfl rfl) (B d32_48) (fun _ _ => ⟨rfl, e70, (by decide : 14 + 0 ≤ _), (by decide : 802 + 0 ≤ _)⟩)
  dsimp only [Pt.U, Pt.locs, Pt.cells, Pt.slots] at X85 l85 y85 z85 st85 hQ85
  rw [l85, y85, z85] at X85
  obtain ⟨rfl, Nq85, kp85, fv85, fc85, fn85, na85⟩ := hQ85
  have N86 := Fr.app N62 Nq85
  have CH87 := CH71.trans (CHr.keep kp85 (sfS f74 (sfS f75 sf0)) CH71.1)
  have hk87 := Nat.le_trans hk70 kp85.1
  have Ol88 := Ol71.keep kp85 (allS gn54 (allS gn61 all0))
  have K88 := K71.trans kp85 (allS (Or.inr sz54) (allS (Or.inr (Nat.le_trans K56.1 gz61)) all0))
  have f89 := (f76.keep kp85 (ninS netb8_54 (ninS gne61_tb8 nin0)))
  have f90 := (f77.keep kp85 (ninS netn25_54 (ninS gne61_tn25 nin0)))
  have f91 := (f78.keep kp85)
  have f92 := (f79.keep kp85 (ninS netR48_54 (ninS gne61_tR48 nin0)))
  have f93 := (f80.keep kp85)
  have f94 := ((((sCR48.ext E54).keep kp61 (ninS nerb48_54 nin0)).ext E70).keep kp85 (ninS nerb48_54 (ninS gne61_rb48 nin0)))
  have f95 := ((((sVR48.ext E54).keep kp61 (ninS nerb48_54 nin0)).ext E70).keep kp85 (ninS nerb48_54 (ninS gne61_rb48 nin0)))
  obtain ⟨cq96, kq96, q96a, q96b, q96c⟩ := isOf hZ70 rfl f93
  obtain ⟨_, _, ⟨T96, L96, k96, n96⟩, -, X96, ⟨Lc96, hQ96, l96, y96, z96⟩, st96⟩ := X85.virtualBack hx (y := my18) (z := my18) hown70 (mvT hZ70 (ow76 hw)) (mvT hZ70 (ow77 hw)) (notFace_of_selects (args := #[]) (mvT hZ70 (ow79 hw))) (mvT hZ70 (ow79 hw)) (mvT hZ70 (ow78 hw)) (by decide) (backOf (W := 0) (rmbg l Z a0 hw [] b54 rb48 tb61 kb61 16 (([] : List Int32) ++ [(34 : Int32)]) ((([] : List Int32) ++ (List.take 60 cs)) ++ [(46 : Int32), (46 : Int32), (46 : Int32)]) G1 T85.heap n0 Ol88 O2 P5 f93 fv85 fc85 fn85 na85 gn54 gn61 ⟨f91, f94, spR48, slR48, tR48, skR48, f95, f92⟩ (by first | (simp only [List.length_append, List.length_cons, List.length_nil, List.length_take] <;> omega) | omega) (by first | (simp only [List.length_append, List.length_cons, List.length_nil, List.length_take] <;> omega) | omega) (by first | (simp only [List.length_append, List.length_cons, List.length_nil, List.length_take] <;> omega) | omega) (by first | (simp only [List.length_append, List.length_cons, List.length_nil, List.length_take] <;> omega) | omega)) hZ70 (ow80 hw) (ow57 hw) (by decide) (by decide)) q96a q96c (g := (mkF m 52 #[(VR a), (VR rb48)] [(.ref rb48), (.ref b54)])) rfl (by rw [hml]; rfl) (Steps.refl _) (argsL := [(.ref rb48)]) (rest := []) (lenOf pd23 rfl) rfl (w0 rfl rfl) (B d32_52) (fun _ _ => ⟨rfl, rfl, (by decide : 14 + 1 ≤ _), (by decide : 802 + 300 ≤ _)⟩)
  dsimp only [Pt.U, Pt.locs, Pt.cells, Pt.slots] at X96 l96 y96 z96 st96 hQ96
  rw [l96, y96, z96] at X96
  obtain ⟨tn96, kn96, rfl, Nq96, kp96, gn96, gz96, fv96, fc96, fn96, na96⟩ := hQ96
  have N97 := Fr.app N86 Nq96
  have f98 := (Safe.keep kp85 (sfS f74 (sfS f75 sf0)) CH71.1 f74)
  have CH99 := CH87.trans (CHr.keep kp96 (sfS f98 sf0) CH87.1)
  have hk99 := Nat.le_trans hk87 kp96.1
  have Ol100 := Ol88.keep kp96 (allS gn54 all0)
  have K100 := K88.trans kp96 (allS (Or.inr sz54) all0)
  have gne96_tb8 : tb8 ≠ tn96 := Nat.ne_of_lt (Nat.lt_of_lt_of_le f89.lt gz96)
  have gne96_tn25 : tn25 ≠ tn96 := Nat.ne_of_lt (Nat.lt_of_lt_of_le f90.lt gz96)
  have gne96_rb48 : rb48 ≠ tn96 := Nat.ne_of_lt (Nat.lt_of_lt_of_le f91.lt gz96)
  have gne96_tR48 : tR48 ≠ tn96 := Nat.ne_of_lt (Nat.lt_of_lt_of_le f92.lt gz96)
  have gne96_b54 : b54 ≠ tn96 := Nat.ne_of_lt (Nat.lt_of_lt_of_le f93.lt gz96)
  have gne96_tb61 : tb61 ≠ tn96 := Nat.ne_of_lt (Nat.lt_of_lt_of_le na85.lt gz96)
  have Yb96 := Safe.keep kp96 (sfS f98 sf0) CH87.1 (Safe.new (x := tn96) gz96)
  have f101 := (f89.keep kp96 (ninS netb8_54 nin0))
  have f102 := (f90.keep kp96 (ninS netn25_54 nin0))
  have f103 := (f93.keep kp96)
  have f104 := (na85.keep kp96 (ninS (Ne.symm gne61_b54) nin0))
  obtain ⟨b105, T105, h105, kk105, d105, k105, X105, e105, E105, hS105, hk105, hZ105, hown105, Ex105, Fc105, Fv105, Av105, -, -, CR105, -, sn105, st105⟩ := ldcCH X96 hx hZ70 hown70 (ow73 hw) (own_wS hw) rfl hS70 hk99 (own_EW hw) (by decide) CH99.1 (vs := [(.int (34 : Int32))]) (z := (1 : Int32)) ⟨by decide, rfl⟩ (by decide) (by decide) (g := (mkF m 55 #[(VR a), (VR rb48)] [(.ref b54)])) rfl (B d32_55) (n := 4) (by decide) (by decide) (by decide) (by decide)
  have Ol106 := Ol100.ext E105
  have K106 := K100.ext E105
  have CH106 := CH99.trans CR105
  have f107 := (CHr.safe CR105 f101.lt (Safe.keep kp96 (sfS f98 sf0) CH87.1 (Safe.keep kp85 (sfS f74 (sfS f75 sf0)) CH71.1 f72)))
  have sq105_0 := sn105 tb8 f107
  have f108 := (CHr.safe CR105 f102.lt (Safe.keep kp96 (sfS f98 sf0) CH87.1 (Safe.keep kp85 (sfS f74 (sfS f75 sf0)) CH71.1 f73)))
  have sq105_1 := sn105 tn25 f108
  have f109 := (CHr.safe CR105 f103.lt (Safe.keep kp96 (sfS f98 sf0) CH87.1 f98))
  have sq105_2 := sn105 b54 f109
  have f110 := (CHr.safe CR105 f104.lt (Safe.keep kp96 (sfS f98 sf0) CH87.1 (Safe.keep kp85 (sfS f74 (sfS f75 sf0)) CH71.1 f75)))
  have sq105_3 := sn105 tb61 f110
  have f111 := (CHr.safe CR105 na96.lt Yb96)
  have sq105_4 := sn105 tn96 f111
  have f112 := (f101.ext E105)
  have f113 := (f102.ext E105)
  have f114 := (f103.ext E105)
  have f115 := (f104.ext E105)
  have f116 := (na96.ext E105)
  have f117 := (fv96.ext E105)
  have f118 := (fc96.ext E105)
  have f119 := (fn96.ext E105)
  obtain ⟨cq120, kq120, q120a, q120b, q120c⟩ := isOf hZ105 e105 f114
  obtain ⟨_, _, ⟨T120, L120, k120, n120⟩, -, X120, ⟨Lc120, hQ120, l120, y120, z120⟩, st120⟩ := X105.virtualBack hx (y := my18) (z := my18) hown105 (mvT hZ105 (ow76 hw)) (mvT hZ105 (ow77 hw)) (notFace_of_selects (args := #[]) (mvT hZ105 (ow79 hw))) (mvT hZ105 (ow79 hw)) (mvT hZ105 (ow78 hw)) (by decide) (backOf (W := 0) (rmbg l Z a0 hw [] b54 b105 tn96 kn96 (16 + max ((List.length (([] : List Int32) ++ [(34 : Int32)]) + List.length ((([] : List Int32) ++ (List.take 60 cs)) ++ [(46 : Int32), (46 : Int32), (46 : Int32)])) - 16) (16 + 2)) ((([] : List Int32) ++ [(34 : Int32)]) ++ ((([] : List Int32) ++ (List.take 60 cs)) ++ [(46 : Int32), (46 : Int32), (46 : Int32)])) [(34 : Int32)] G1 h105 n0 Ol106 O2 P5 f114 f117 f118 f119 f116 gn54 gn96 ⟨Ex105, Fc105, own_sp34, (by decide), d105, k105, Fv105, Av105⟩ (by first | (simp only [List.length_append, List.length_cons, List.length_nil, List.length_take] <;> omega) | omega) (by first | (simp only [List.length_append, List.length_cons, List.length_nil, List.length_take] <;> omega) | omega) (by first | (simp only [List.length_append, List.length_cons, List.length_nil, List.length_take] <;> omega) | omega) (by first | (simp only [List.length_append, List.length_cons, List.length_nil, List.length_take] <;> omega) | omega)) hZ105 (ow80 hw) (ow57 hw) (by decide) (by decide)) q120a q120c (g := (mkF m 57 #[(VR a), (VR rb48)] [(.ref b105), (.ref b54)])) rfl (by rw [hml]; rfl) (Steps.refl _) (argsL := [(.ref b105)]) (rest := []) (lenOf pd23 rfl) rfl (w0 rfl rfl) (B d32_57) (fun _ _ => ⟨rfl, e105, (by decide : 17 + 1 ≤ _), (by decide : 1110 + 300 ≤ _)⟩)
  dsimp only [Pt.U, Pt.locs, Pt.cells, Pt.slots] at X120 l120 y120 z120 st120 hQ120
  rw [l120, y120, z120] at X120
  obtain ⟨tn120, kn120, rfl, Nq120, kp120, gn120, gz120, fv120, fc120, fn120, na120⟩ := hQ120
  have N121 := Fr.app N97 Nq120
  have CH122 := CH106.trans (CHr.keep kp120 (sfS f109 sf0) CH106.1)
  have hk122 := Nat.le_trans hk105 kp120.1
  have Ol123 := Ol106.keep kp120 (allS gn54 all0)
  have K123 := K106.trans kp120 (allS (Or.inr sz54) all0)
  have gne120_tb8 : tb8 ≠ tn120 := Nat.ne_of_lt (Nat.lt_of_lt_of_le f112.lt gz120)
  have gne120_tn25 : tn25 ≠ tn120 := Nat.ne_of_lt (Nat.lt_of_lt_of_le f113.lt gz120)
  have gne120_b54 : b54 ≠ tn120 := Nat.ne_of_lt (Nat.lt_of_lt_of_le f114.lt gz120)
  have gne120_tb61 : tb61 ≠ tn120 := Nat.ne_of_lt (Nat.lt_of_lt_of_le f115.lt gz120)
  have gne120_tn96 : tn96 ≠ tn120 := Nat.ne_of_lt (Nat.lt_of_lt_of_le f116.lt gz120)
  have gne120_b105 : b105 ≠ tn120 := Nat.ne_of_lt (Nat.lt_of_lt_of_le Ex105.lt gz120)
  have gne120_d105 : d105 ≠ tn120 := Nat.ne_of_lt (Nat.lt_of_lt_of_le Av105.lt gz120)
  have Yb120 := Safe.keep kp120 (sfS f109 sf0) CH106.1 (Safe.new (x := tn120) gz120)
  have f124 := (f114.keep kp120)
  obtain ⟨cq125, kq125, q125a, q125b, q125c⟩ := isOf hZ105 rfl f124
  obtain ⟨_, _, ⟨T125, L125, k125, n125⟩, -, X125, ⟨Lc125, hQ125, l125, y125, z125⟩, st125⟩ := X120.virtualBack hx (y := my29) (z := my29) hown105 (mvT hZ105 (ow114 hw)) (mvT hZ105 (ow115 hw)) (notFace_of_selects (args := #[]) (mvT hZ105 (ow117 hw))) (mvT hZ105 (ow117 hw)) (mvT hZ105 (ow116 hw)) (by decide) (backOf (W := 0) (rmts l Z a0 hw [] b54 tn120 kn120 ((16 + max ((List.length (([] : List Int32) ++ [(34 : Int32)]) + List.length ((([] : List Int32) ++ (List.take 60 cs)) ++ [(46 : Int32), (46 : Int32), (46 : Int32)])) - 16) (16 + 2)) + max ((List.length ((([] : List Int32) ++ [(34 : Int32)]) ++ ((([] : List Int32) ++ (List.take 60 cs)) ++ [(46 : Int32), (46 : Int32), (46 : Int32)])) + List.length [(34 : Int32)]) - (16 + max ((List.length (([] : List Int32) ++ [(34 : Int32)]) + List.length ((([] : List Int32) ++ (List.take 60 cs)) ++ [(46 : Int32), (46 : Int32), (46 : Int32)])) - 16) (16 + 2))) ((16 + max ((List.length (([] : List Int32) ++ [(34 : Int32)]) + List.length ((([] : List Int32) ++ (List.take 60 cs)) ++ [(46 : Int32), (46 : Int32), (46 : Int32)])) - 16) (16 + 2)) + 2)) (((([] : List Int32) ++ [(34 : Int32)]) ++ ((([] : List Int32) ++ (List.take 60 cs)) ++ [(46 : Int32), (46 : Int32), (46 : Int32)])) ++ [(34 : Int32)]) G1 T120.heap n0 Ol123 O2 P5 f124 fv120 fc120 fn120 na120 (own_spa (own_spa (own_spa own_nil own_sp34) spR48) own_sp34) (by first | (simp only [List.length_append, List.length_cons, List.length_nil, List.length_take] <;> omega) | omega) (by first | (simp only [List.length_append, List.length_cons, List.length_nil, List.length_take] <;> omega) | omega) (by first | (simp only [List.length_append, List.length_cons, List.length_nil, List.length_take] <;> omega) | omega)) hZ105 (ow118 hw) (ow57 hw) (by decide) (by decide)) q125a q125c (g := (mkF m 60 #[(VR a), (VR rb48)] [(.ref b54)])) rfl (by rw [hml]; rfl) (Steps.refl _) (argsL := []) (rest := []) (lenOf pd24 rfl) rfl (w0 rfl rfl) (B d32_60) (fun _ _ => ⟨rfl, rfl, (by decide : 18 + 2 ≤ _), (by decide : 1410 + 69 ≤ _)⟩)
  dsimp only [Pt.U, Pt.locs, Pt.cells, Pt.slots] at X125 l125 y125 z125 st125 hQ125
  rw [l125, y125, z125] at X125
  obtain ⟨rb125, rfl, Nq125, kp125, gb125, Sr125⟩ := hQ125
  have N126 := Fr.app N121 Nq125
  have CH127 := CH122.trans (CHr.keep kp125 sf0 CH122.1)
  have hk127 := Nat.le_trans hk122 kp125.1
  have Ol128 := Ol123.keep kp125 all0
  have K128 := K123.trans kp125 all0
  obtain ⟨sER125, sCR125, spR125, slR125, tR125, skR125, sVR125, sAR125⟩ := id Sr125
  obtain ⟨fs, hretL, hrun, hended, hEnd⟩ := Stand.leaveW X125 hS105 hk127 (v := some (.ref rb125)) (fun h => by rw [Bd.returns] at h; cases h)
  have hCf : CHr Z EL0 s.vm s.heap T125.vm T125.heap := by rw [hh]; exact CH127.trans (CHv.at X125 hZ105 (own_EW hw) CH127.1)
  refine ⟨_, _, pre0 _ ?_, hrun, hended, _, _, rfl, ?_, hCf, hEnd.1, hEnd.2.1, hEnd.2.2.1, hEnd.2.2.2.mono (by decide) (by decide)⟩
  · refine XS.aloadN X0.here hx rfl (B d32_0) rfl rfl ?_
    refine st1.trans ?_
    show GO p e below T1 (mkF m 4 #[(VR a), .unset] [(.int (Int32.ofNat (List.length cs)))]) _
    refine XS.bipush X1.here hx rfl (B d32_4) ?_
    refine XS.icmpNo X1.here hx rfl (B d32_6) rfl (tlt ((on_lt (i := 60) (by omega) (by omega)).mpr hn)).2.2.2 ?_
    show GO p e below T1 (mkF m 9 #[(VR a), .unset] []) _
    refine st3 _ ?_
    show GO p e below T3 (mkF m 12 #[(VR a), .unset] [(.ref b3)]) _
    refine XS.dup X3.here hx rfl (B d32_12) rfl rfl ?_
    refine st8.trans ?_
    show GO p e below T8 (mkF m 16 #[(VR a), .unset] [(.ref b3)]) _
    refine XS.aloadN X8.here hx rfl (B d32_16) rfl rfl ?_
    refine XS.iconst X8.here hx rfl (B d32_17) ?_
    refine XS.bipush X8.here hx rfl (B d32_18) ?_
    refine st16.trans ?_
    show GO p e below T16 (mkF m 23 #[(VR a), .unset] [(.ref ub16), (.ref b3)]) _
    refine st25.trans ?_
    show GO p e below T25 (mkF m 26 #[(VR a), .unset] [(.ref b3)]) _
    refine st32 _ ?_
    show GO p e below T32 (mkF m 28 #[(VR a), .unset] [(.ref b32), (.ref b3)]) _
    refine st43.trans ?_
    show GO p e below T43 (mkF m 31 #[(VR a), .unset] [(.ref b3)]) _
    refine st48.trans ?_
    show GO p e below T48 (mkF m 34 #[(VR a), .unset] [(.ref rb48)]) _
    refine XS.goto X48.here hx rfl (pc0 := 34) (pc' := 38) rfl (B d32_34) (by decide) (by decide) ?_
    refine XS.astoreN X48.here hx rfl (B d32_38) rfl rfl (l' := #[.val (.ref a), .val (.ref rb48)]) rfl ?_
    refine st54 _ ?_
    show GO p e below T54 (mkF m 42 #[(VR a), (VR rb48)] [(.ref b54)]) _
    refine XS.dup X54.here hx rfl (B d32_42) rfl rfl ?_
    refine st61.trans ?_
    show GO p e below T61 (mkF m 46 #[(VR a), (VR rb48)] [(.ref b54)]) _
    refine st70 _ ?_
    show GO p e below T70 (mkF m 48 #[(VR a), (VR rb48)] [(.ref b70), (.ref b54)]) _
    refine st85.trans ?_
    show GO p e below T85 (mkF m 51 #[(VR a), (VR rb48)] [(.ref b54)]) _
    refine XS.aloadN X85.here hx rfl (B d32_51) rfl rfl ?_
    refine st96.trans ?_
    show GO p e below T96 (mkF m 55 #[(VR a), (VR rb48)] [(.ref b54)]) _
    refine st105 _ ?_
    show GO p e below T105 (mkF m 57 #[(VR a), (VR rb48)] [(.ref b105), (.ref b54)]) _
    refine st120.trans ?_
    show GO p e below T120 (mkF m 60 #[(VR a), (VR rb48)] [(.ref b54)]) _
    refine st125.trans ?_
    show GO p e below T125 (mkF m 63 #[(VR a), (VR rb48)] [(.ref rb125)]) _
    exact retOut X125 hx Bd.returns rfl (Or.inr (Or.inr (Or.inr (Or.inr ⟨rfl, rfl, rfl⟩)))) (B d32_63) hretL
  · show Q_rmql Z a cs G1 fm h0 n0 _ T125.heap _
    exact ⟨_, rfl, N126, K128, Sr125⟩
theorem d33_0 : decode method_3_code 0 = .ok (.iload_n 1, 1) := by decide +kernel
theorem d33_1 : decode method_3_code 1 = .ok (.ifCond .lt 18, 3) := by decide +kernel
theorem d33_4 : decode method_3_code 4 = .ok (.iload_n 1, 1) := by decide +kernel
theorem d33_5 : decode method_3_code 5 = .ok (.aload_n 0, 1) := by decide +kernel
theorem d33_6 : decode method_3_code 6 = .ok (.arraylength, 1) := by decide +kernel
theorem d33_7 : decode method_3_code 7 = .ok (.if_icmp .ge 12, 3) := by decide +kernel
theorem d33_10 : decode method_3_code 10 = .ok (.aload_n 0, 1) := by decide +kernel
theorem d33_11 : decode method_3_code 11 = .ok (.iload_n 1, 1) := by decide +kernel
theorem d33_12 : decode method_3_code 12 = .ok (.iload_n 2, 1) := by decide +kernel
theorem d33_13 : decode method_3_code 13 = .ok (.sipush 255, 3) := by decide +kernel
theorem d33_16 : decode method_3_code 16 = .ok (.iand, 1) := by decide +kernel
theorem d33_17 : decode method_3_code 17 = .ok (.i2c, 1) := by decide +kernel
theorem d33_18 : decode method_3_code 18 = .ok (.castore, 1) := by decide +kernel
theorem d33_19 : decode method_3_code 19 = .ok (.return_, 1) := by decide +kernel
def Q_rmpi (Z : State) (ar : Addr) (ix : Int32) (vv : Int32) (kc : ClassId) (cs : List Int32) (j : Nat) (nn : Nat) (h0 : Heap) (n0 : Nat) (v : Option Value) (h : Heap) (L : List Loc) : Prop := v = none ∧ Fr n0 L ∧ Keep h0 h [ar] ∧ Arv Z h ar kc .char (Int32.ofNat nn) (List.map Value.int (List.set cs j (vv &&& (255 : Int32)))) (.int (0 : Int32))
theorem ef_rmpi (m : MethodId) (ar : Addr) (ix : Int32) (vv : Int32) : entryFrame m #[(.ref ar), (.int ix), (.int vv)] 3 = mkF m 0 #[.val (.ref ar), .val (.int ix), .val (.int vv)] [] := by first | (simp [entryFrame, mkF, argsToLocals, Value.category]; done) | rfl
set_option maxRecDepth 65536 in
set_option maxHeartbeats 40000000 in
theorem rmpi (l : Launch) (Z : State) (a0 : Array Value) (hw : HW a0 Z) (ws : List Jvm.Cond) (ar : Addr) (ix : Int32) (vv : Int32) (kc : ClassId) (cs : List Int32) (j : Nat) (nn : Nat) (h0 : Heap) (n0 : Nat) (O0 : Old Z n0 h0) (Ac : Arv Z h0 ar kc .char (Int32.ofNat nn) (List.map Value.int cs) (.int (0 : Int32))) (hcl : List.length cs = nn) (hix : ix = Int32.ofNat j) (hj : j < nn) (hn : nn ≤ 100) (gr : n0 ≤ ar) :
    MetFree l my34 (head1 (Jvm.Cond.code my34 method_3_code 3 none :: ws) ({ frames := 0, cells := 0, slots := 0, locals := 0 } : Room)) (fun aa U => aa = #[(.ref ar), (.int ix), (.int vv)] ∧ Z.Warmed39 U.vm ∧ U.heap = h0) (fun _ _ _ _ _ => True) (fun _ U o U' => ∃ v L, o = .returned v ∧ Q_rmpi Z ar ix vv kc cs j nn h0 n0 v U'.heap L ∧ FrameEnd U o U' L ({ frames := 0, cells := 0, slots := 0, locals := 0 } : Room).cells ({ frames := 0, cells := 0, slots := 0, locals := 0 } : Room).slots) := by
  refine MetFree.of_bodySF (plainFor_of_name pn8) hisR ?_
  intro p e s m args below meth c s₁ Bd hml0 hP hK
  obtain ⟨rfl, hZ, hh⟩ := hP
  have hx := Bd.exec
  have hby := Bd.bytes
  have B := fun {pc : Nat} {r} (h : decode method_3_code pc = r) => hb hby h
  have hml : c.maxLocals = 3 := hml0
  have hown : s.vm.findClass "com/example/atropos/atropos/io/CurveTextQuotePinLaw" = some m.cls := findClass_of_methodNamed Bd.named
  have hnm := (name_of_methodNamed Bd.named Bd.method).1
  have X0 : Stand p l e ({ frames := 0, cells := 0, slots := 0, locals := 0 } : Room) s m #[(.ref ar), (.int ix), (.int vv)] below meth c s₁ [] 0 0 := Stand.of_body Bd
  have e0 : s₁.heap = h0 := by rw [← hh, Bd.state]; rfl
  have N0 := Fr.nil n0
  have K0 : Keep h0 h0 [ar] := Keep.refl _ _
  have pre0 : ∀ tgt, Steps p.tables e below (s₁.setTop (mkF m 0 #[.val (.ref ar), .val (.int ix), .val (.int vv)] [])) tgt → Steps p.tables e below (s₁.setTop (entryFrame m #[(.ref ar), (.int ix), (.int vv)] 3)) tgt := fun tgt kgo => castTop (ef_rmpi m ar ix vv) kgo
  obtain ⟨cl1, Ar1, q1, S1, M1, H1, G1⟩ := id Ac
  obtain ⟨cl2, Ar2, q2, S2, M2, H2, G2⟩ := id Ac
  have hin2 : ¬ (ix < 0 ∨ cl2.slots.size ≤ (ix).toNatClampNeg) := inb_of S2 (by rw [hix]; exact ⟨on_n0 (by omega), (on_lt (by omega) (by omega)).mpr hj⟩)
  obtain ⟨T3, h3, X3, e3, W3, st3⟩ := stC X0 hx hZ e0 Ar2 (j := ix) hin2 (g := (mkF m 18 #[(VR ar), (VI ix), (VI vv)] [(.int (vv &&& (255 : Int32)).toUInt32.toUInt16.toUInt32.toInt32), (.int ix), (.ref ar)])) rfl rfl (B d33_18)
  have V3 : Arv Z h3 ar kc .char (Int32.ofNat nn) (List.map Value.int (List.set cs j (vv &&& (255 : Int32)))) (.int (0 : Int32)) := (by have q := (Arv.set Ar2 q2 S2 M2 H2 G2 (fits_nar_char _) W3 j (by rw [hix]; exact on_cl (by omega)) (by rw [List.length_map, hcl]; exact hj)); rw [own_c255] at q; rw [List.map_set]; exact q)
  have N4 := Fr.snoc X3 N0 gr
  have Ol4 := O0.wr W3 gr
  have K4 := K0.wr W3 (Or.inl (List.mem_of_getElem? (i := 0) rfl))
  obtain ⟨fs, hretL, hrun, hended, hW, hsame⟩ := X3.leave (v := none) (fun _ => rfl)
  refine ⟨_, _, pre0 _ ?_, hrun, hended, _, _, rfl, ?_, ⟨_, rfl⟩, hW, hsame.mono (by decide) (by decide)⟩
  · refine XS.iloadN X0.here hx rfl (B d33_0) rfl ?_
    refine XS.ifNo X0.here hx rfl (B d33_1) rfl ((if0 _ _).trans (flt (by rw [hix]; exact on_n0 (by omega))).1) ?_
    show GO p e below s₁ (mkF m 4 #[(VR ar), (VI ix), (VI vv)] []) _
    refine XS.iloadN X0.here hx rfl (B d33_4) rfl ?_
    refine XS.aloadN X0.here hx rfl (B d33_5) rfl rfl ?_
    refine X0.arraylength hx (by rw [e0]; exact Ar1.1) (State.isArrayOf_alike hZ.alike Ar1.2.1) (g := (mkF m 6 #[.val (.ref ar), .val (.int ix), .val (.int vv)] [(.ref ar), (.int ix)])) rfl rfl (B d33_6) _ ?_
    rw [len_of S1 M1]
    show GO p e below s₁ (mkF m 7 #[(VR ar), (VI ix), (VI vv)] [(.int (Int32.ofNat nn)), (.int ix)]) _
    refine XS.icmpNo X0.here hx rfl (B d33_7) rfl (tlt (by rw [hix]; exact (on_lt (by omega) (by omega)).mpr hj)).2.1 ?_
    show GO p e below s₁ (mkF m 10 #[(VR ar), (VI ix), (VI vv)] []) _
    refine XS.aloadN X0.here hx rfl (B d33_10) rfl rfl ?_
    refine XS.iloadN X0.here hx rfl (B d33_11) rfl ?_
    refine XS.iloadN X0.here hx rfl (B d33_12) rfl ?_
    refine XS.sipush X0.here hx rfl (B d33_13) ?_
    refine XS.iand X0.here hx rfl (B d33_16) rfl ?_
    refine XS.i2c X0.here hx rfl (B d33_17) rfl ?_
    refine st3 _ ?_
    show GO p e below T3 (mkF m 19 #[(VR ar), (VI ix), (VI vv)] []) _
    exact X3.returnOut hx Bd.returns (B d33_19) hretL
  · show Q_rmpi Z ar ix vv kc cs j nn h0 n0 _ T3.heap _
    rw [e3]
    exact ⟨rfl, N4, K4, V3⟩
def Q_rmpo (Z : State) (ar : Addr) (ix : Int32) (vv : Int32) (kc : ClassId) (vs : List Value) (ln : Int32) (h0 : Heap) (n0 : Nat) (v : Option Value) (h : Heap) (L : List Loc) : Prop := v = none ∧ Fr n0 L ∧ h = h0
theorem ef_rmpo (m : MethodId) (ar : Addr) (ix : Int32) (vv : Int32) : entryFrame m #[(.ref ar), (.int ix), (.int vv)] 3 = mkF m 0 #[.val (.ref ar), .val (.int ix), .val (.int vv)] [] := by first | (simp [entryFrame, mkF, argsToLocals, Value.category]; done) | rfl
set_option maxRecDepth 65536 in
set_option maxHeartbeats 40000000 in
theorem rmpo (l : Launch) (Z : State) (a0 : Array Value) (hw : HW a0 Z) (ws : List Jvm.Cond) (ar : Addr) (ix : Int32) (vv : Int32) (kc : ClassId) (vs : List Value) (ln : Int32) (h0 : Heap) (n0 : Nat) (O0 : Old Z n0 h0) (Ac : Arv Z h0 ar kc .char ln vs (.int (0 : Int32))) (hout : ix < 0 ∨ ¬ ix < ln) :
    MetFree l my34 (head1 (Jvm.Cond.code my34 method_3_code 3 none :: ws) ({ frames := 0, cells := 0, slots := 0, locals := 0 } : Room)) (fun aa U => aa = #[(.ref ar), (.int ix), (.int vv)] ∧ Z.Warmed39 U.vm ∧ U.heap = h0) (fun _ _ _ _ _ => True) (fun _ U o U' => ∃ v L, o = .returned v ∧ Q_rmpo Z ar ix vv kc vs ln h0 n0 v U'.heap L ∧ FrameEnd U o U' L ({ frames := 0, cells := 0, slots := 0, locals := 0 } : Room).cells ({ frames := 0, cells := 0, slots := 0, locals := 0 } : Room).slots) := by
  refine MetFree.of_bodySF (plainFor_of_name pn8) hisR ?_
  intro p e s m args below meth c s₁ Bd hml0 hP hK
  obtain ⟨rfl, hZ, hh⟩ := hP
  have hx := Bd.exec
  have hby := Bd.bytes
  have B := fun {pc : Nat} {r} (h : decode method_3_code pc = r) => hb hby h
  have hml : c.maxLocals = 3 := hml0
  have hown : s.vm.findClass "com/example/atropos/atropos/io/CurveTextQuotePinLaw" = some m.cls := findClass_of_methodNamed Bd.named
  have hnm := (name_of_methodNamed Bd.named Bd.method).1
  have X0 : Stand p l e ({ frames := 0, cells := 0, slots := 0, locals := 0 } : Room) s m #[(.ref ar), (.int ix), (.int vv)] below meth c s₁ [] 0 0 := Stand.of_body Bd
  have e0 : s₁.heap = h0 := by rw [← hh, Bd.state]; rfl
  have N0 := Fr.nil n0
  have K0 : Keep h0 h0 [] := Keep.refl _ _
  have pre0 : ∀ tgt, Steps p.tables e below (s₁.setTop (mkF m 0 #[.val (.ref ar), .val (.int ix), .val (.int vv)] [])) tgt → Steps p.tables e below (s₁.setTop (entryFrame m #[(.ref ar), (.int ix), (.int vv)] 3)) tgt := fun tgt kgo => castTop (ef_rmpo m ar ix vv) kgo
  have pre1 : ∀ tgt, Steps p.tables e below (s₁.setTop (mkF m 1 #[(VR ar), (VI ix), (VI vv)] [(.int ix)])) tgt → Steps p.tables e below (s₁.setTop (entryFrame m #[(.ref ar), (.int ix), (.int vv)] 3)) tgt := by
    intro tgt kgo
    refine pre0 _ ?_
    refine XS.iloadN X0.here hx rfl (B d33_0) rfl ?_
    exact kgo
  by_cases hc1_2 : ix < (0 : Int32)
  · obtain ⟨fs, hretL, hrun, hended, hW, hsame⟩ := X0.leave (v := none) (fun _ => rfl)
    refine ⟨_, _, pre1 _ ?_, hrun, hended, _, _, rfl, ?_, ⟨_, rfl⟩, hW, hsame.mono (by decide) (by decide)⟩
    · refine XS.ifYes X0.here hx rfl (pc0 := 1) (pc' := 19) rfl (B d33_1) rfl ((if0 _ _).trans (tlt hc1_2).1) (by decide) (by decide) ?_
      show GO p e below s₁ (mkF m 19 #[(VR ar), (VI ix), (VI vv)] []) _
      exact X0.returnOut hx Bd.returns (B d33_19) hretL
    · show Q_rmpo Z ar ix vv kc vs ln h0 n0 _ s₁.heap _
      rw [e0]
      exact ⟨rfl, N0, rfl⟩
  · obtain ⟨cl3, Ar3, q3, S3, M3, H3, G3⟩ := id Ac
    obtain ⟨fs, hretL, hrun, hended, hW, hsame⟩ := X0.leave (v := none) (fun _ => rfl)
    refine ⟨_, _, pre1 _ ?_, hrun, hended, _, _, rfl, ?_, ⟨_, rfl⟩, hW, hsame.mono (by decide) (by decide)⟩
    · refine XS.ifNo X0.here hx rfl (B d33_1) rfl ((if0 _ _).trans (flt hc1_2).1) ?_
      show GO p e below s₁ (mkF m 4 #[(VR ar), (VI ix), (VI vv)] []) _
      refine XS.iloadN X0.here hx rfl (B d33_4) rfl ?_
      refine XS.aloadN X0.here hx rfl (B d33_5) rfl rfl ?_
      refine X0.arraylength hx (by rw [e0]; exact Ar3.1) (State.isArrayOf_alike hZ.alike Ar3.2.1) (g := (mkF m 6 #[.val (.ref ar), .val (.int ix), .val (.int vv)] [(.ref ar), (.int ix)])) rfl rfl (B d33_6) _ ?_
      rw [len_of S3 M3]
      show GO p e below s₁ (mkF m 7 #[(VR ar), (VI ix), (VI vv)] [(.int ln), (.int ix)]) _
      refine XS.icmpYes X0.here hx rfl (pc0 := 7) (pc' := 19) rfl (B d33_7) rfl (flt (hout.elim (fun q => absurd q hc1_2) id)).2.1 (by decide) (by decide) ?_
      show GO p e below s₁ (mkF m 19 #[(VR ar), (VI ix), (VI vv)] []) _
      exact X0.returnOut hx Bd.returns (B d33_19) hretL
    · show Q_rmpo Z ar ix vv kc vs ln h0 n0 _ s₁.heap _
      rw [e0]
      exact ⟨rfl, N0, rfl⟩
theorem d34_0 : decode method_4_code 0 = .ok (.iload_n 2, 1) := by decide +kernel
theorem d34_1 : decode method_4_code 1 = .ok (.ifCond .lt 16, 3) := by decide +kernel
theorem d34_4 : decode method_4_code 4 = .ok (.iload_n 2, 1) := by decide +kernel
theorem d34_5 : decode method_4_code 5 = .ok (.iload_n 3, 1) := by decide +kernel
theorem d34_6 : decode method_4_code 6 = .ok (.if_icmp .ge 11, 3) := by decide +kernel
theorem d34_9 : decode method_4_code 9 = .ok (.aload_n 1, 1) := by decide +kernel
theorem d34_10 : decode method_4_code 10 = .ok (.iload_n 2, 1) := by decide +kernel
theorem d34_11 : decode method_4_code 11 = .ok (.iconst 1, 1) := by decide +kernel
theorem d34_12 : decode method_4_code 12 = .ok (.iadd, 1) := by decide +kernel
theorem d34_13 : decode method_4_code 13 = .ok (.aload_n 0, 1) := by decide +kernel
theorem d34_14 : decode method_4_code 14 = .ok (.iload_n 2, 1) := by decide +kernel
theorem d34_15 : decode method_4_code 15 = .ok (.caload, 1) := by decide +kernel
theorem d34_16 : decode method_4_code 16 = .ok (.castore, 1) := by decide +kernel
theorem d34_17 : decode method_4_code 17 = .ok (.return_, 1) := by decide +kernel
def Q_rmci (Z : State) (ar : Addr) (er : Addr) (ix : Int32) (sh : Int32) (kc : ClassId) (ke : ClassId) (cs : List Int32) (es : List Int32) (j : Nat) (nn : Nat) (nm : Nat) (nk : Nat) (h0 : Heap) (n0 : Nat) (v : Option Value) (h : Heap) (L : List Loc) : Prop := v = none ∧ Fr n0 L ∧ Keep h0 h [er] ∧ Arv Z h er ke .char (Int32.ofNat nm) (List.map Value.int (List.set es (j + 1) (List.getD cs j 0))) (.int (0 : Int32))
theorem ef_rmci (m : MethodId) (ar : Addr) (er : Addr) (ix : Int32) (sh : Int32) : entryFrame m #[(.ref ar), (.ref er), (.int ix), (.int sh)] 4 = mkF m 0 #[.val (.ref ar), .val (.ref er), .val (.int ix), .val (.int sh)] [] := by first | (simp [entryFrame, mkF, argsToLocals, Value.category]; done) | rfl
set_option maxRecDepth 65536 in
set_option maxHeartbeats 40000000 in
theorem rmci (l : Launch) (Z : State) (a0 : Array Value) (hw : HW a0 Z) (ws : List Jvm.Cond) (ar : Addr) (er : Addr) (ix : Int32) (sh : Int32) (kc : ClassId) (ke : ClassId) (cs : List Int32) (es : List Int32) (j : Nat) (nn : Nat) (nm : Nat) (nk : Nat) (h0 : Heap) (n0 : Nat) (O0 : Old Z n0 h0) (Ac : Arv Z h0 ar kc .char (Int32.ofNat nn) (List.map Value.int cs) (.int (0 : Int32))) (Ae : Arv Z h0 er ke .char (Int32.ofNat nm) (List.map Value.int es) (.int (0 : Int32))) (hel : List.length es = nm) (hsp : Byt cs) (hix : ix = Int32.ofNat j) (hsh : sh = Int32.ofNat nk) (hj : j < nk) (hk : nk ≤ nn) (hkm : nk < nm) (hn : nn ≤ 100) (hm : nm ≤ 100) (ge : n0 ≤ er) :
    MetFree l my35 (head1 (Jvm.Cond.code my35 method_4_code 4 none :: ws) ({ frames := 0, cells := 0, slots := 0, locals := 0 } : Room)) (fun aa U => aa = #[(.ref ar), (.ref er), (.int ix), (.int sh)] ∧ Z.Warmed39 U.vm ∧ U.heap = h0) (fun _ _ _ _ _ => True) (fun _ U o U' => ∃ v L, o = .returned v ∧ Q_rmci Z ar er ix sh kc ke cs es j nn nm nk h0 n0 v U'.heap L ∧ FrameEnd U o U' L ({ frames := 0, cells := 0, slots := 0, locals := 0 } : Room).cells ({ frames := 0, cells := 0, slots := 0, locals := 0 } : Room).slots) := by
  refine MetFree.of_bodySF (plainFor_of_name pn8) hisR ?_
  intro p e s m args below meth c s₁ Bd hml0 hP hK
  obtain ⟨rfl, hZ, hh⟩ := hP
  have hx := Bd.exec
  have hby := Bd.bytes
  have B := fun {pc : Nat} {r} (h : decode method_4_code pc = r) => hb hby h
  have hml : c.maxLocals = 4 := hml0
  have hown : s.vm.findClass "com/example/atropos/atropos/io/CurveTextQuotePinLaw" = some m.cls := findClass_of_methodNamed Bd.named
  have hnm := (name_of_methodNamed Bd.named Bd.method).1
  have X0 : Stand p l e ({ frames := 0, cells := 0, slots := 0, locals := 0 } : Room) s m #[(.ref ar), (.ref er), (.int ix), (.int sh)] below meth c s₁ [] 0 0 := Stand.of_body Bd
  have e0 : s₁.heap = h0 := by rw [← hh, Bd.state]; rfl
  have N0 := Fr.nil n0
  have K0 : Keep h0 h0 [er] := Keep.refl _ _
  have pre0 : ∀ tgt, Steps p.tables e below (s₁.setTop (mkF m 0 #[.val (.ref ar), .val (.ref er), .val (.int ix), .val (.int sh)] [])) tgt → Steps p.tables e below (s₁.setTop (entryFrame m #[(.ref ar), (.ref er), (.int ix), (.int sh)] 4)) tgt := fun tgt kgo => castTop (ef_rmci m ar er ix sh) kgo
  obtain ⟨cl1, Ar1, q1, S1, M1, H1, G1⟩ := id Ac
  have hin1 : ¬ (ix < 0 ∨ cl1.slots.size ≤ (ix).toNatClampNeg) := inb_of S1 (by rw [hix]; exact ⟨on_n0 (by omega), (on_lt (by omega) (by omega)).mpr (by omega)⟩)
  have hat1 : cl1.slots[(ix).toNatClampNeg]? = some (.int (List.getD cs j 0)) := H1.at hin1 (own_mg hix (by omega))
  obtain ⟨cl2, Ar2, q2, S2, M2, H2, G2⟩ := id Ae
  have hin2 : ¬ ((ix + (1 : Int32)) < 0 ∨ cl2.slots.size ≤ ((ix + (1 : Int32))).toNatClampNeg) := inb_of S2 (by rw [hix, on_inc]; exact ⟨on_n0 (by omega), (on_lt (by omega) (by omega)).mpr (by omega)⟩)
  obtain ⟨T3, h3, X3, e3, W3, st3⟩ := stC X0 hx hZ e0 Ar2 (j := (ix + (1 : Int32))) hin2 (g := (mkF m 16 #[(VR ar), (VR er), (VI ix), (VI sh)] [(.int (List.getD cs j 0)), (.int (ix + (1 : Int32))), (.ref er)])) rfl rfl (B d34_16)
  have V3 : Arv Z h3 er ke .char (Int32.ofNat nm) (List.map Value.int (List.set es (j + 1) (List.getD cs j 0))) (.int (0 : Int32)) := (by have q := (Arv.set Ar2 q2 S2 M2 H2 G2 (fits_nar_char _) W3 (j + 1) (by rw [hix, on_inc]; exact on_cl (by omega)) (by rw [List.length_map, hel]; omega)); rw [own_nc (own_gdb hsp j)] at q; rw [List.map_set]; exact q)
  have N4 := Fr.snoc X3 N0 ge
  have Ol4 := O0.wr W3 ge
  have K4 := K0.wr W3 (Or.inl (List.mem_of_getElem? (i := 0) rfl))
  obtain ⟨fs, hretL, hrun, hended, hW, hsame⟩ := X3.leave (v := none) (fun _ => rfl)
  refine ⟨_, _, pre0 _ ?_, hrun, hended, _, _, rfl, ?_, ⟨_, rfl⟩, hW, hsame.mono (by decide) (by decide)⟩
  · refine XS.iloadN X0.here hx rfl (B d34_0) rfl ?_
    refine XS.ifNo X0.here hx rfl (B d34_1) rfl ((if0 _ _).trans (flt (by rw [hix]; exact on_n0 (by omega))).1) ?_
    show GO p e below s₁ (mkF m 4 #[(VR ar), (VR er), (VI ix), (VI sh)] []) _
    refine XS.iloadN X0.here hx rfl (B d34_4) rfl ?_
    refine XS.iloadN X0.here hx rfl (B d34_5) rfl ?_
    refine XS.icmpNo X0.here hx rfl (B d34_6) rfl (tlt (by rw [hix, hsh]; exact (on_lt (by omega) (by omega)).mpr hj)).2.1 ?_
    show GO p e below s₁ (mkF m 9 #[(VR ar), (VR er), (VI ix), (VI sh)] []) _
    refine XS.aloadN X0.here hx rfl (B d34_9) rfl rfl ?_
    refine XS.iloadN X0.here hx rfl (B d34_10) rfl ?_
    refine XS.iconst X0.here hx rfl (B d34_11) ?_
    refine XS.iadd X0.here hx rfl (B d34_12) rfl ?_
    refine XS.aloadN X0.here hx rfl (B d34_13) rfl rfl ?_
    refine XS.iloadN X0.here hx rfl (B d34_14) rfl ?_
    refine X0.caload hx (j := ix) (v := (.int (List.getD cs j 0))) (by rw [e0]; exact Ar1.1) (State.isArrayOf_alike hZ.alike Ar1.2.1) Ar1.2.2 hin1 hat1 (g := (mkF m 15 #[.val (.ref ar), .val (.ref er), .val (.int ix), .val (.int sh)] [(.int ix), (.ref ar), (.int (ix + (1 : Int32))), (.ref er)])) rfl rfl (B d34_15) _ ?_
    show GO p e below s₁ (mkF m 16 #[(VR ar), (VR er), (VI ix), (VI sh)] [(.int (List.getD cs j 0)), (.int (ix + (1 : Int32))), (.ref er)]) _
    refine st3 _ ?_
    show GO p e below T3 (mkF m 17 #[(VR ar), (VR er), (VI ix), (VI sh)] []) _
    exact X3.returnOut hx Bd.returns (B d34_17) hretL
  · show Q_rmci Z ar er ix sh kc ke cs es j nn nm nk h0 n0 _ T3.heap _
    rw [e3]
    exact ⟨rfl, N4, K4, V3⟩
def Q_rmco (Z : State) (ar : Addr) (er : Addr) (ix : Int32) (sh : Int32) (h0 : Heap) (n0 : Nat) (v : Option Value) (h : Heap) (L : List Loc) : Prop := v = none ∧ Fr n0 L ∧ h = h0
theorem ef_rmco (m : MethodId) (ar : Addr) (er : Addr) (ix : Int32) (sh : Int32) : entryFrame m #[(.ref ar), (.ref er), (.int ix), (.int sh)] 4 = mkF m 0 #[.val (.ref ar), .val (.ref er), .val (.int ix), .val (.int sh)] [] := by first | (simp [entryFrame, mkF, argsToLocals, Value.category]; done) | rfl
set_option maxRecDepth 65536 in
set_option maxHeartbeats 40000000 in
theorem rmco (l : Launch) (Z : State) (a0 : Array Value) (hw : HW a0 Z) (ws : List Jvm.Cond) (ar : Addr) (er : Addr) (ix : Int32) (sh : Int32) (h0 : Heap) (n0 : Nat) (O0 : Old Z n0 h0) (hout : ix < 0 ∨ ¬ ix < sh) :
    MetFree l my35 (head1 (Jvm.Cond.code my35 method_4_code 4 none :: ws) ({ frames := 0, cells := 0, slots := 0, locals := 0 } : Room)) (fun aa U => aa = #[(.ref ar), (.ref er), (.int ix), (.int sh)] ∧ Z.Warmed39 U.vm ∧ U.heap = h0) (fun _ _ _ _ _ => True) (fun _ U o U' => ∃ v L, o = .returned v ∧ Q_rmco Z ar er ix sh h0 n0 v U'.heap L ∧ FrameEnd U o U' L ({ frames := 0, cells := 0, slots := 0, locals := 0 } : Room).cells ({ frames := 0, cells := 0, slots := 0, locals := 0 } : Room).slots) := by
  refine MetFree.of_bodySF (plainFor_of_name pn8) hisR ?_
  intro p e s m args below meth c s₁ Bd hml0 hP hK
  obtain ⟨rfl, hZ, hh⟩ := hP
  have hx := Bd.exec
  have hby := Bd.bytes
  have B := fun {pc : Nat} {r} (h : decode method_4_code pc = r) => hb hby h
  have hml : c.maxLocals = 4 := hml0
  have hown : s.vm.findClass "com/example/atropos/atropos/io/CurveTextQuotePinLaw" = some m.cls := findClass_of_methodNamed Bd.named
  have hnm := (name_of_methodNamed Bd.named Bd.method).1
  have X0 : Stand p l e ({ frames := 0, cells := 0, slots := 0, locals := 0 } : Room) s m #[(.ref ar), (.ref er), (.int ix), (.int sh)] below meth c s₁ [] 0 0 := Stand.of_body Bd
  have e0 : s₁.heap = h0 := by rw [← hh, Bd.state]; rfl
  have N0 := Fr.nil n0
  have K0 : Keep h0 h0 [] := Keep.refl _ _
  have pre0 : ∀ tgt, Steps p.tables e below (s₁.setTop (mkF m 0 #[.val (.ref ar), .val (.ref er), .val (.int ix), .val (.int sh)] [])) tgt → Steps p.tables e below (s₁.setTop (entryFrame m #[(.ref ar), (.ref er), (.int ix), (.int sh)] 4)) tgt := fun tgt kgo => castTop (ef_rmco m ar er ix sh) kgo
  have pre1 : ∀ tgt, Steps p.tables e below (s₁.setTop (mkF m 1 #[(VR ar), (VR er), (VI ix), (VI sh)] [(.int ix)])) tgt → Steps p.tables e below (s₁.setTop (entryFrame m #[(.ref ar), (.ref er), (.int ix), (.int sh)] 4)) tgt := by
    intro tgt kgo
    refine pre0 _ ?_
    refine XS.iloadN X0.here hx rfl (B d34_0) rfl ?_
    exact kgo
  by_cases hc1_2 : ix < (0 : Int32)
  · obtain ⟨fs, hretL, hrun, hended, hW, hsame⟩ := X0.leave (v := none) (fun _ => rfl)
    refine ⟨_, _, pre1 _ ?_, hrun, hended, _, _, rfl, ?_, ⟨_, rfl⟩, hW, hsame.mono (by decide) (by decide)⟩
    · refine XS.ifYes X0.here hx rfl (pc0 := 1) (pc' := 17) rfl (B d34_1) rfl ((if0 _ _).trans (tlt hc1_2).1) (by decide) (by decide) ?_
      show GO p e below s₁ (mkF m 17 #[(VR ar), (VR er), (VI ix), (VI sh)] []) _
      exact X0.returnOut hx Bd.returns (B d34_17) hretL
    · show Q_rmco Z ar er ix sh h0 n0 _ s₁.heap _
      rw [e0]
      exact ⟨rfl, N0, rfl⟩
  · obtain ⟨fs, hretL, hrun, hended, hW, hsame⟩ := X0.leave (v := none) (fun _ => rfl)
    refine ⟨_, _, pre1 _ ?_, hrun, hended, _, _, rfl, ?_, ⟨_, rfl⟩, hW, hsame.mono (by decide) (by decide)⟩
    · refine XS.ifNo X0.here hx rfl (B d34_1) rfl ((if0 _ _).trans (flt hc1_2).1) ?_
      show GO p e below s₁ (mkF m 4 #[(VR ar), (VR er), (VI ix), (VI sh)] []) _
      refine XS.iloadN X0.here hx rfl (B d34_4) rfl ?_
      refine XS.iloadN X0.here hx rfl (B d34_5) rfl ?_
      refine XS.icmpYes X0.here hx rfl (pc0 := 6) (pc' := 17) rfl (B d34_6) rfl (flt (hout.elim (fun q => absurd q hc1_2) id)).2.1 (by decide) (by decide) ?_
      show GO p e below s₁ (mkF m 17 #[(VR ar), (VR er), (VI ix), (VI sh)] []) _
      exact X0.returnOut hx Bd.returns (B d34_17) hretL
    · show Q_rmco Z ar er ix sh h0 n0 _ s₁.heap _
      rw [e0]
      exact ⟨rfl, N0, rfl⟩
def Q_rm0k0 (Z : State) (x0 : Int32) (x1 : Int32) (x2 : Int32) (x3 : Int32) (x4 : Int32) (x5 : Int32) (G1 : Int32) (fm : Value) (h0 : Heap) (n0 : Nat) (v : Option Value) (h : Heap) (L : List Loc) : Prop := v = some (.int (1 : Int32)) ∧ Fr n0 L
theorem ef_rm0k0 (m : MethodId) (x0 : Int32) (x1 : Int32) (x2 : Int32) (x3 : Int32) (x4 : Int32) (x5 : Int32) : entryFrame m #[(.int x0), (.int x1), (.int x2), (.int x3), (.int x4), (.int x5)] maxLocals = mkF m 0 #[.val (.int x0), .val (.int x1), .val (.int x2), .val (.int x3), .val (.int x4), .val (.int x5), .unset, .unset, .unset, .unset, .unset, .unset] [] := by first | (simp [entryFrame, mkF, argsToLocals, Value.category, maxLocals]; done) | rfl
set_option maxRecDepth 65536 in
set_option maxHeartbeats 40000000 in
theorem rm0k0 (l : Launch) (Z : State) (a0 : Array Value) (hw : HW a0 Z) (ws : List Jvm.Cond) (x0 : Int32) (x1 : Int32) (x2 : Int32) (x3 : Int32) (x4 : Int32) (x5 : Int32) (G1 : Int32) (fm : Value) (h0 : Heap) (n0 : Nat) (O0 : Old Z n0 h0) (hkc : (x5 &&& (7 : Int32)) = (0 : Int32)) (O2 : Sta Z Z.heap "java/lang/String" "COMPACT_STRINGS" "Z" (.int G1)) (P5 : ¬ (G1 = (0 : Int32))) (O4 : Sta Z Z.heap "jdk/internal/util/Preconditions" "SIOOBE_FORMATTER" "Ljava/util/function/BiFunction;" fm) (rf : fm.isRef = true) :
    MetFree l x (head1 (Jvm.Cond.code x code maxLocals ret :: ws) room_1) (fun aa U => aa = #[(.int x0), (.int x1), (.int x2), (.int x3), (.int x4), (.int x5)] ∧ Z.Warmed39 U.vm ∧ U.heap = h0 ∧ CHv Z EL0 U.vm h0) (fun _ _ _ _ _ => True) (fun _ U o U' => ∃ v L, o = .returned v ∧ Q_rm0k0 Z x0 x1 x2 x3 x4 x5 G1 fm h0 n0 v U'.heap L ∧ CHr Z EL0 U.vm U.heap U'.vm U'.heap ∧ ReturnedEndW U o U' L 26 1745) := by
  refine MetFree.of_bodySF (plainFor_of_name pn8) hisR ?_
  intro p e s m args below meth c s₁ Bd hml0 hP hK
  obtain ⟨rfl, hZ, hh, hCH⟩ := hP
  have hx := Bd.exec
  have hby := Bd.bytes
  have B := fun {pc : Nat} {r} (h : decode code pc = r) => hb hby h
  have hml : c.maxLocals = 12 := hml0
  have hown : s.vm.findClass "com/example/atropos/atropos/io/CurveTextQuotePinLaw" = some m.cls := findClass_of_methodNamed Bd.named
  have hnm := (name_of_methodNamed Bd.named Bd.method).1
  have X0 : Stand p l e room_1 (s.setVm s.vm) m #[(.int x0), (.int x1), (.int x2), (.int x3), (.int x4), (.int x5)] below meth c s₁ [] 0 0 := Stand.of_body Bd
  have e0 : s₁.heap = h0 := by rw [← hh, Bd.state]; rfl
  have N0 := Fr.nil n0
  have pre0 : ∀ tgt, Steps p.tables e below (s₁.setTop (mkF m 0 #[.val (.int x0), .val (.int x1), .val (.int x2), .val (.int x3), .val (.int x4), .val (.int x5), .unset, .unset, .unset, .unset, .unset, .unset] [])) tgt → Steps p.tables e below (s₁.setTop (entryFrame m #[(.int x0), (.int x1), (.int x2), (.int x3), (.int x4), (.int x5)] maxLocals)) tgt := fun tgt kgo => castTop (ef_rm0k0 m x0 x1 x2 x3 x4 x5) kgo
  have hS0 : s.Since s.vm 0 := (State.WarmedH.refl s).since 0
  have hk0 : 0 ≤ h0.size := Nat.zero_le _
  have CH0 : CHr Z EL0 s.vm h0 s.vm h0 := CHr.refl hCH
  have pre1 : ∀ tgt, Steps p.tables e below (s₁.setTop (FL m x0 x1 x2 x3 x4 x5 7 (VI (x5 &&& (7 : Int32))) .unset .unset .unset .unset .unset [])) tgt → Steps p.tables e below (s₁.setTop (entryFrame m #[(.int x0), (.int x1), (.int x2), (.int x3), (.int x4), (.int x5)] maxLocals)) tgt := by
    intro tgt kgo
    refine pre0 _ ?_
    refine XS.iload X0.here hx rfl (B at_0) rfl ?_
    refine XS.bipush X0.here hx rfl (B at_2) ?_
    refine XS.iand X0.here hx rfl (B at_4) rfl ?_
    refine XS.istore X0.here hx rfl (B at_5) rfl (l' := #[.val (.int x0), .val (.int x1), .val (.int x2), .val (.int x3), .val (.int x4), .val (.int x5), .val (.int (x5 &&& (7 : Int32))), .unset, .unset, .unset, .unset, .unset]) rfl ?_
    exact kgo
  have pre2 : ∀ tgt, Steps p.tables e below (s₁.setTop (FL m x0 x1 x2 x3 x4 x5 7 (VI 0) .unset .unset .unset .unset .unset [])) tgt → Steps p.tables e below (s₁.setTop (entryFrame m #[(.int x0), (.int x1), (.int x2), (.int x3), (.int x4), (.int x5)] maxLocals)) tgt := by
    have q := pre1
    rw [hkc] at q
    exact q
  obtain ⟨T3, h3, k3, X3, e3, E3, A3, st3⟩ := newP (aty := .char) X0 hx hZ (ow0 hw) e0 (g := (FL m x0 x1 x2 x3 x4 x5 13 (VI 0) .unset .unset .unset .unset .unset [(.int 0)])) rfl (B at_13) rfl (by decide) (cap := 0) (by decide) (by decide) (by decide) (by decide)
  obtain ⟨b3, g3⟩ : ∃ z, z = h0.size := ⟨_, rfl⟩
  rw [← g3] at A3 st3
  have V3 : Arv Z h3 b3 k3 .char (0 : Int32) (List.replicate 0 (.int (0 : Int32))) (.int (0 : Int32)) := (Arv.new A3 (by decide)).pad (pad_rep [] (.int (0 : Int32)) 0)
  have gn3 : n0 ≤ b3 := Nat.le_trans (own_sz O0) (Nat.le_of_eq g3.symm)
  have Y3 := Safe.ext E3 CH0.1 (Safe.new (x := b3) (Nat.le_of_eq g3.symm))
  have CH4 := CH0.trans (CHr.ext E3 CH0.1)
  have hk4 := Nat.le_trans hk0 E3.1
  have Ol5 := O0.ext E3
  obtain ⟨T6, h6, k6, X6, e6, E6, A6, st6⟩ := newP (aty := .char) X3 hx hZ (ow0 hw) e3 (g := (FL m x0 x1 x2 x3 x4 x5 18 (VI 0) (VR b3) .unset .unset .unset .unset [(.int 2)])) rfl (B at_18) rfl (by decide) (cap := 2) (by decide) (by decide) (by decide) (by decide)
  obtain ⟨b6, g6⟩ : ∃ z, z = h3.size := ⟨_, rfl⟩
  rw [← g6] at A6 st6
  have V6 : Arv Z h6 b6 k6 .char (2 : Int32) (List.replicate 2 (.int (0 : Int32))) (.int (0 : Int32)) := (Arv.new A6 (by decide)).pad (pad_rep [] (.int (0 : Int32)) 2)
  have gn6 : n0 ≤ b6 := Nat.le_trans (own_sz Ol5) (Nat.le_of_eq g6.symm)
  have neb3_6 : b3 ≠ b6 := Nat.ne_of_lt (Nat.lt_of_lt_of_le V3.lt (Nat.le_of_eq g6.symm))
  have Y6 := Safe.ext E6 CH4.1 (Safe.new (x := b6) (Nat.le_of_eq g6.symm))
  have CH7 := CH4.trans (CHr.ext E6 CH4.1)
  have hk7 := Nat.le_trans hk4 E6.1
  have Ol8 := Ol5.ext E6
  have f10 := (V3.ext E6)
  have Vm9 : Arv Z h6 b3 k3 .char (0 : Int32) (List.map Value.int (List.replicate 0 (0 : Int32))) (.int (0 : Int32)) := by have q := f10; rw [List.map_replicate]; exact q
  have Vm11 : Arv Z h6 b6 k6 .char (2 : Int32) (List.map Value.int (List.replicate 2 (0 : Int32))) (.int (0 : Int32)) := by have q := V6; rw [List.map_replicate]; exact q
  obtain ⟨cl12, Ar12, q12, S12, M12, H12, G12⟩ := id Vm9
  obtain ⟨_, _, ⟨T13, L13, k13, n13⟩, -, X13, ⟨Lc13, hQ13, l13, y13, z13⟩, st13⟩ := Jvm.LawKit.callS X6 hx (y := my34) hown (mvT hZ (ow1 hw)) (mvT hZ (ow2 hw)) (mvT hZ (ow3 hw)) (mvT hZ (ow4 hw)) (by decide) (backOf (W := 0) (rmpo l Z a0 hw [] b3 (0 : Int32) x0 k3 _ (0 : Int32) h6 n0 Ol8 Vm9 (by decide)) hZ (ow4 hw) (ow3 hw) (by decide) (by decide)) (g := (FL m x0 x1 x2 x3 x4 x5 167 (VI 0) (VR b3) (VR b6) (VI 0) .unset .unset [(.int x0), (.int 0), (.ref b3)])) rfl (by rw [hml]; rfl) (argsL := [(.ref b3), (.int 0), (.int x0)]) (rest := []) (lenOf pd26 rfl) rfl (w0 rfl rfl) (B at_167) (fun _ _ => ⟨rfl, e6, (by decide : 2 + 0 ≤ _), (by decide : 2 + 0 ≤ _)⟩)
  dsimp only [Pt.U, Pt.locs, Pt.cells, Pt.slots] at X13 l13 y13 z13 st13 hQ13
  rw [l13, y13, z13] at X13
  obtain ⟨rfl, Nq13, eq13⟩ := hQ13
  have N14 := Fr.app N0 Nq13
  obtain ⟨_, _, ⟨T15, L15, k15, n15⟩, -, X15, ⟨Lc15, hQ15, l15, y15, z15⟩, st15⟩ := Jvm.LawKit.callS X13 hx (y := my34) hown (mvT hZ (ow1 hw)) (mvT hZ (ow2 hw)) (mvT hZ (ow3 hw)) (mvT hZ (ow4 hw)) (by decide) (backOf (W := 0) (rmpo l Z a0 hw [] b3 (1 : Int32) x1 k3 _ (0 : Int32) h6 n0 Ol8 Vm9 (by decide)) hZ (ow4 hw) (ow3 hw) (by decide) (by decide)) (g := (FL m x0 x1 x2 x3 x4 x5 174 (VI 0) (VR b3) (VR b6) (VI 0) .unset .unset [(.int x1), (.int 1), (.ref b3)])) rfl (by rw [hml]; rfl) (argsL := [(.ref b3), (.int 1), (.int x1)]) (rest := []) (lenOf pd26 rfl) rfl (w0 rfl rfl) (B at_174) (fun _ _ => ⟨rfl, eq13, (by decide : 2 + 0 ≤ _), (by decide : 2 + 0 ≤ _)⟩)
  dsimp only [Pt.U, Pt.locs, Pt.cells, Pt.slots] at X15 l15 y15 z15 st15 hQ15
  rw [l15, y15, z15] at X15
  obtain ⟨rfl, Nq15, eq15⟩ := hQ15
  have N16 := Fr.app N14 Nq15
  obtain ⟨_, _, ⟨T17, L17, k17, n17⟩, -, X17, ⟨Lc17, hQ17, l17, y17, z17⟩, st17⟩ := Jvm.LawKit.callS X15 hx (y := my34) hown (mvT hZ (ow1 hw)) (mvT hZ (ow2 hw)) (mvT hZ (ow3 hw)) (mvT hZ (ow4 hw)) (by decide) (backOf (W := 0) (rmpo l Z a0 hw [] b3 (58 : Int32) x2 k3 _ (0 : Int32) h6 n0 Ol8 Vm9 (by decide)) hZ (ow4 hw) (ow3 hw) (by decide) (by decide)) (g := (FL m x0 x1 x2 x3 x4 x5 182 (VI 0) (VR b3) (VR b6) (VI 0) .unset .unset [(.int x2), (.int 58), (.ref b3)])) rfl (by rw [hml]; rfl) (argsL := [(.ref b3), (.int 58), (.int x2)]) (rest := []) (lenOf pd26 rfl) rfl (w0 rfl rfl) (B at_182) (fun _ _ => ⟨rfl, eq15, (by decide : 2 + 0 ≤ _), (by decide : 2 + 0 ≤ _)⟩)
  dsimp only [Pt.U, Pt.locs, Pt.cells, Pt.slots] at X17 l17 y17 z17 st17 hQ17
  rw [l17, y17, z17] at X17
  obtain ⟨rfl, Nq17, eq17⟩ := hQ17
  have N18 := Fr.app N16 Nq17
  obtain ⟨_, _, ⟨T19, L19, k19, n19⟩, -, X19, ⟨Lc19, hQ19, l19, y19, z19⟩, st19⟩ := Jvm.LawKit.callS X17 hx (y := my34) hown (mvT hZ (ow1 hw)) (mvT hZ (ow2 hw)) (mvT hZ (ow3 hw)) (mvT hZ (ow4 hw)) (by decide) (backOf (W := 0) (rmpo l Z a0 hw [] b3 (59 : Int32) x3 k3 _ (0 : Int32) h6 n0 Ol8 Vm9 (by decide)) hZ (ow4 hw) (ow3 hw) (by decide) (by decide)) (g := (FL m x0 x1 x2 x3 x4 x5 190 (VI 0) (VR b3) (VR b6) (VI 0) .unset .unset [(.int x3), (.int 59), (.ref b3)])) rfl (by rw [hml]; rfl) (argsL := [(.ref b3), (.int 59), (.int x3)]) (rest := []) (lenOf pd26 rfl) rfl (w0 rfl rfl) (B at_190) (fun _ _ => ⟨rfl, eq17, (by decide : 2 + 0 ≤ _), (by decide : 2 + 0 ≤ _)⟩)
  dsimp only [Pt.U, Pt.locs, Pt.cells, Pt.slots] at X19 l19 y19 z19 st19 hQ19
  rw [l19, y19, z19] at X19
  obtain ⟨rfl, Nq19, eq19⟩ := hQ19
  have N20 := Fr.app N18 Nq19
  obtain ⟨_, _, ⟨T21, L21, k21, n21⟩, -, X21, ⟨Lc21, hQ21, l21, y21, z21⟩, st21⟩ := Jvm.LawKit.callS X19 hx (y := my34) hown (mvT hZ (ow1 hw)) (mvT hZ (ow2 hw)) (mvT hZ (ow3 hw)) (mvT hZ (ow4 hw)) (by decide) (backOf (W := 0) (rmpo l Z a0 hw [] b3 (60 : Int32) x4 k3 _ (0 : Int32) h6 n0 Ol8 Vm9 (by decide)) hZ (ow4 hw) (ow3 hw) (by decide) (by decide)) (g := (FL m x0 x1 x2 x3 x4 x5 199 (VI 0) (VR b3) (VR b6) (VI 0) .unset .unset [(.int x4), (.int 60), (.ref b3)])) rfl (by rw [hml]; rfl) (argsL := [(.ref b3), (.int 60), (.int x4)]) (rest := []) (lenOf pd26 rfl) rfl (w0 rfl rfl) (B at_199) (fun _ _ => ⟨rfl, eq19, (by decide : 2 + 0 ≤ _), (by decide : 2 + 0 ≤ _)⟩)
  dsimp only [Pt.U, Pt.locs, Pt.cells, Pt.slots] at X21 l21 y21 z21 st21 hQ21
  rw [l21, y21, z21] at X21
  obtain ⟨rfl, Nq21, eq21⟩ := hQ21
  have N22 := Fr.app N20 Nq21
  obtain ⟨_, _, ⟨T23, L23, k23, n23⟩, -, X23, ⟨Lc23, hQ23, l23, y23, z23⟩, st23⟩ := Jvm.LawKit.callS X21 hx (y := my34) hown (mvT hZ (ow1 hw)) (mvT hZ (ow2 hw)) (mvT hZ (ow3 hw)) (mvT hZ (ow4 hw)) (by decide) (backOf (W := 0) (rmpo l Z a0 hw [] b3 (-1 : Int32) ((x5.toUInt32 >>> ((8 : Int32) &&& 31).toUInt32).toInt32) k3 _ (0 : Int32) h6 n0 Ol8 Vm9 (by decide)) hZ (ow4 hw) (ow3 hw) (by decide) (by decide)) (g := (FL m x0 x1 x2 x3 x4 x5 213 (VI 0) (VR b3) (VR b6) (VI 0) .unset .unset [(.int ((x5.toUInt32 >>> ((8 : Int32) &&& 31).toUInt32).toInt32)), (.int (-1)), (.ref b3)])) rfl (by rw [hml]; rfl) (argsL := [(.ref b3), (.int (-1)), (.int ((x5.toUInt32 >>> ((8 : Int32) &&& 31).toUInt32).toInt32))]) (rest := []) (lenOf pd26 rfl) rfl (w0 rfl rfl) (B at_213) (fun _ _ => ⟨rfl, eq21, (by decide : 2 + 0 ≤ _), (by decide : 2 + 0 ≤ _)⟩)
  dsimp only [Pt.U, Pt.locs, Pt.cells, Pt.slots] at X23 l23 y23 z23 st23 hQ23
  rw [l23, y23, z23] at X23
  obtain ⟨rfl, Nq23, eq23⟩ := hQ23
  have N24 := Fr.app N22 Nq23
  obtain ⟨_, _, ⟨T25, L25, k25, n25⟩, -, X25, ⟨Lc25, hQ25, l25, y25, z25⟩, st25⟩ := Jvm.LawKit.callS X23 hx (y := my7) hown (mvT hZ (ow5 hw)) (mvT hZ (ow6 hw)) (mvT hZ (ow7 hw)) (mvT hZ (ow8 hw)) (by decide) (backOf (W := 0) (rmmin l Z a0 hw [] (0 : Int32) (60 : Int32)  h6 n0 Ol8 ) hZ (ow8 hw) (ow7 hw) (by decide) (by decide)) (g := (FL m x0 x1 x2 x3 x4 x5 220 (VI 0) (VR b3) (VR b6) (VI 0) .unset .unset [(.int 60), (.int 0)])) rfl (by rw [hml]; rfl) (argsL := [(.int 0), (.int 60)]) (rest := []) (lenOf pd2 rfl) rfl (w0 rfl rfl) (B at_220) (fun _ _ => ⟨rfl, eq23, (by decide : 2 + 0 ≤ _), (by decide : 2 + 0 ≤ _)⟩)
  dsimp only [Pt.U, Pt.locs, Pt.cells, Pt.slots] at X25 l25 y25 z25 st25 hQ25
  rw [l25, y25, z25] at X25
  obtain ⟨hv25, Nq25, eq25⟩ := hQ25
  obtain rfl := own_lit hv25 (y := (0 : Int32)) (by decide)
  have N26 := Fr.app N24 Nq25
  obtain ⟨cl27, Ar27, q27, S27, M27, H27, G27⟩ := id Vm11
  have hin27 : ¬ ((0 : Int32) < 0 ∨ cl27.slots.size ≤ ((0 : Int32)).toNatClampNeg) := inb_of S27 ⟨by decide, by decide⟩
  obtain ⟨T28, h28, X28, e28, W28, st28⟩ := stC X25 hx hZ eq25 Ar27 (j := (0 : Int32)) hin27 (g := (FL m x0 x1 x2 x3 x4 x5 230 (VI 0) (VR b3) (VR b6) (VI 0) (VI 0) .unset [(.int 34), (.int 0), (.ref b6)])) rfl rfl (B at_230)
  have V28 : Arv Z h28 b6 k6 .char (2 : Int32) (List.map Value.int (List.set (List.replicate 2 (0 : Int32)) 0 (34 : Int32))) (.int (0 : Int32)) := (by have q := (Arv.set Ar27 q27 S27 M27 H27 G27 (fits_nar_char _) W28 0 rfl (by rw [List.length_map, ((by simp only [List.length_replicate]) : List.length (List.replicate 2 (0 : Int32)) = 2)]; decide)); rw [show nar .char (34 : Int32) = 34 by decide] at q; rw [List.map_set]; exact q)
  have CH29 := CH7.trans (CHr.wr W28 Y6 CH7.1)
  have hk29 := Nat.le_trans hk7 (Keep.of_wr W28).1
  have N30 := Fr.snoc X28 N26 gn6
  have Ol30 := Ol8.wr W28 gn6
  obtain ⟨_, _, ⟨T31, L31, k31, n31⟩, -, X31, ⟨Lc31, hQ31, l31, y31, z31⟩, st31⟩ := Jvm.LawKit.callS X28 hx (y := my35) hown (mvT hZ (ow9 hw)) (mvT hZ (ow10 hw)) (mvT hZ (ow3 hw)) (mvT hZ (ow11 hw)) (by decide) (backOf (W := 0) (rmco l Z a0 hw [] b3 b6 (0 : Int32) (0 : Int32)  h28 n0 Ol30 (by decide)) hZ (ow11 hw) (ow3 hw) (by decide) (by decide)) (g := (FL m x0 x1 x2 x3 x4 x5 238 (VI 0) (VR b3) (VR b6) (VI 0) (VI 0) .unset [(.int 0), (.int 0), (.ref b6), (.ref b3)])) rfl (by rw [hml]; rfl) (argsL := [(.ref b3), (.ref b6), (.int 0), (.int 0)]) (rest := []) (lenOf pd27 rfl) rfl (w0 rfl rfl) (B at_238) (fun _ _ => ⟨rfl, e28, (by decide : 2 + 0 ≤ _), (by decide : 2 + 0 ≤ _)⟩)
  dsimp only [Pt.U, Pt.locs, Pt.cells, Pt.slots] at X31 l31 y31 z31 st31 hQ31
  rw [l31, y31, z31] at X31
  obtain ⟨rfl, Nq31, eq31⟩ := hQ31
  have N32 := Fr.app N30 Nq31
  obtain ⟨_, _, ⟨T33, L33, k33, n33⟩, -, X33, ⟨Lc33, hQ33, l33, y33, z33⟩, st33⟩ := Jvm.LawKit.callS X31 hx (y := my35) hown (mvT hZ (ow9 hw)) (mvT hZ (ow10 hw)) (mvT hZ (ow3 hw)) (mvT hZ (ow11 hw)) (by decide) (backOf (W := 0) (rmco l Z a0 hw [] b3 b6 (1 : Int32) (0 : Int32)  h28 n0 Ol30 (by decide)) hZ (ow11 hw) (ow3 hw) (by decide) (by decide)) (g := (FL m x0 x1 x2 x3 x4 x5 248 (VI 0) (VR b3) (VR b6) (VI 0) (VI 0) .unset [(.int 0), (.int 1), (.ref b6), (.ref b3)])) rfl (by rw [hml]; rfl) (argsL := [(.ref b3), (.ref b6), (.int 1), (.int 0)]) (rest := []) (lenOf pd27 rfl) rfl (w0 rfl rfl) (B at_248) (fun _ _ => ⟨rfl, eq31, (by decide : 2 + 0 ≤ _), (by decide : 2 + 0 ≤ _)⟩)
  dsimp only [Pt.U, Pt.locs, Pt.cells, Pt.slots] at X33 l33 y33 z33 st33 hQ33
  rw [l33, y33, z33] at X33
  obtain ⟨rfl, Nq33, eq33⟩ := hQ33
  have N34 := Fr.app N32 Nq33
  obtain ⟨_, _, ⟨T35, L35, k35, n35⟩, -, X35, ⟨Lc35, hQ35, l35, y35, z35⟩, st35⟩ := Jvm.LawKit.callS X33 hx (y := my35) hown (mvT hZ (ow9 hw)) (mvT hZ (ow10 hw)) (mvT hZ (ow3 hw)) (mvT hZ (ow11 hw)) (by decide) (backOf (W := 0) (rmco l Z a0 hw [] b3 b6 (58 : Int32) (0 : Int32)  h28 n0 Ol30 (by decide)) hZ (ow11 hw) (ow3 hw) (by decide) (by decide)) (g := (FL m x0 x1 x2 x3 x4 x5 259 (VI 0) (VR b3) (VR b6) (VI 0) (VI 0) .unset [(.int 0), (.int 58), (.ref b6), (.ref b3)])) rfl (by rw [hml]; rfl) (argsL := [(.ref b3), (.ref b6), (.int 58), (.int 0)]) (rest := []) (lenOf pd27 rfl) rfl (w0 rfl rfl) (B at_259) (fun _ _ => ⟨rfl, eq33, (by decide : 2 + 0 ≤ _), (by decide : 2 + 0 ≤ _)⟩)
  dsimp only [Pt.U, Pt.locs, Pt.cells, Pt.slots] at X35 l35 y35 z35 st35 hQ35
  rw [l35, y35, z35] at X35
  obtain ⟨rfl, Nq35, eq35⟩ := hQ35
  have N36 := Fr.app N34 Nq35
  obtain ⟨_, _, ⟨T37, L37, k37, n37⟩, -, X37, ⟨Lc37, hQ37, l37, y37, z37⟩, st37⟩ := Jvm.LawKit.callS X35 hx (y := my35) hown (mvT hZ (ow9 hw)) (mvT hZ (ow10 hw)) (mvT hZ (ow3 hw)) (mvT hZ (ow11 hw)) (by decide) (backOf (W := 0) (rmco l Z a0 hw [] b3 b6 (59 : Int32) (0 : Int32)  h28 n0 Ol30 (by decide)) hZ (ow11 hw) (ow3 hw) (by decide) (by decide)) (g := (FL m x0 x1 x2 x3 x4 x5 270 (VI 0) (VR b3) (VR b6) (VI 0) (VI 0) .unset [(.int 0), (.int 59), (.ref b6), (.ref b3)])) rfl (by rw [hml]; rfl) (argsL := [(.ref b3), (.ref b6), (.int 59), (.int 0)]) (rest := []) (lenOf pd27 rfl) rfl (w0 rfl rfl) (B at_270) (fun _ _ => ⟨rfl, eq35, (by decide : 2 + 0 ≤ _), (by decide : 2 + 0 ≤ _)⟩)
  dsimp only [Pt.U, Pt.locs, Pt.cells, Pt.slots] at X37 l37 y37 z37 st37 hQ37
  rw [l37, y37, z37] at X37
  obtain ⟨rfl, Nq37, eq37⟩ := hQ37
  have N38 := Fr.app N36 Nq37
  obtain ⟨_, _, ⟨T39, L39, k39, n39⟩, -, X39, ⟨Lc39, hQ39, l39, y39, z39⟩, st39⟩ := Jvm.LawKit.callS X37 hx (y := my35) hown (mvT hZ (ow9 hw)) (mvT hZ (ow10 hw)) (mvT hZ (ow3 hw)) (mvT hZ (ow11 hw)) (by decide) (backOf (W := 0) (rmco l Z a0 hw [] b3 b6 (60 : Int32) (0 : Int32)  h28 n0 Ol30 (by decide)) hZ (ow11 hw) (ow3 hw) (by decide) (by decide)) (g := (FL m x0 x1 x2 x3 x4 x5 281 (VI 0) (VR b3) (VR b6) (VI 0) (VI 0) .unset [(.int 0), (.int 60), (.ref b6), (.ref b3)])) rfl (by rw [hml]; rfl) (argsL := [(.ref b3), (.ref b6), (.int 60), (.int 0)]) (rest := []) (lenOf pd27 rfl) rfl (w0 rfl rfl) (B at_281) (fun _ _ => ⟨rfl, eq37, (by decide : 2 + 0 ≤ _), (by decide : 2 + 0 ≤ _)⟩)
  dsimp only [Pt.U, Pt.locs, Pt.cells, Pt.slots] at X39 l39 y39 z39 st39 hQ39
  rw [l39, y39, z39] at X39
  obtain ⟨rfl, Nq39, eq39⟩ := hQ39
  have N40 := Fr.app N38 Nq39
  obtain ⟨_, _, ⟨T41, L41, k41, n41⟩, -, X41, ⟨Lc41, hQ41, l41, y41, z41⟩, st41⟩ := Jvm.LawKit.callS X39 hx (y := my35) hown (mvT hZ (ow9 hw)) (mvT hZ (ow10 hw)) (mvT hZ (ow3 hw)) (mvT hZ (ow11 hw)) (by decide) (backOf (W := 0) (rmco l Z a0 hw [] b3 b6 (-1 : Int32) (0 : Int32)  h28 n0 Ol30 (by decide)) hZ (ow11 hw) (ow3 hw) (by decide) (by decide)) (g := (FL m x0 x1 x2 x3 x4 x5 294 (VI 0) (VR b3) (VR b6) (VI 0) (VI 0) .unset [(.int 0), (.int (-1)), (.ref b6), (.ref b3)])) rfl (by rw [hml]; rfl) (argsL := [(.ref b3), (.ref b6), (.int (-1)), (.int 0)]) (rest := []) (lenOf pd27 rfl) rfl (w0 rfl rfl) (B at_294) (fun _ _ => ⟨rfl, eq39, (by decide : 2 + 0 ≤ _), (by decide : 2 + 0 ≤ _)⟩)
  dsimp only [Pt.U, Pt.locs, Pt.cells, Pt.slots] at X41 l41 y41 z41 st41 hQ41
  rw [l41, y41, z41] at X41
  obtain ⟨rfl, Nq41, eq41⟩ := hQ41
  have N42 := Fr.app N40 Nq41
  obtain ⟨cl43, Ar43, q43, S43, M43, H43, G43⟩ := id V28
  have hin43 : ¬ ((1 : Int32) < 0 ∨ cl43.slots.size ≤ ((1 : Int32)).toNatClampNeg) := inb_of S43 ⟨by decide, by decide⟩
  obtain ⟨T44, h44, X44, e44, W44, st44⟩ := stC X41 hx hZ eq41 Ar43 (j := (1 : Int32)) hin43 (g := (FL m x0 x1 x2 x3 x4 x5 343 (VI 0) (VR b3) (VR b6) (VI 0) (VI 0) .unset [(.int 34), (.int 1), (.ref b6)])) rfl rfl (B at_343)
  have V44 : Arv Z h44 b6 k6 .char (2 : Int32) (List.map Value.int (List.set (List.set (List.replicate 2 (0 : Int32)) 0 (34 : Int32)) 1 (34 : Int32))) (.int (0 : Int32)) := (by have q := (Arv.set Ar43 q43 S43 M43 H43 G43 (fits_nar_char _) W44 1 rfl (by rw [List.length_map, ((by rw [List.length_set]; exact (by simp only [List.length_replicate])) : List.length (List.set (List.replicate 2 (0 : Int32)) 0 (34 : Int32)) = 2)]; decide)); rw [show nar .char (34 : Int32) = 34 by decide] at q; rw [List.map_set]; exact q)
  have f45 := (Safe.wr W28 Y6 CH7.1 Y6)
  have CH46 := CH29.trans (CHr.wr W44 f45 CH29.1)
  have hk46 := Nat.le_trans hk29 (Keep.of_wr W44).1
  have N47 := Fr.snoc X44 N42 gn6
  have Ol47 := Ol30.wr W44 gn6
  have f48 := ((Vm9.other W28 neb3_6).other W44 neb3_6)
  obtain ⟨T49, h49, X49, e49, E49, A49, D49, U49, st49⟩ := newO X44 hx hZ hown (ow12 hw) (ow13 hw) (ow14 hw) e44 (g := (FL m x0 x1 x2 x3 x4 x5 344 (VI 0) (VR b3) (VR b6) (VI 0) (VI 0) .unset [])) rfl (B at_344) (by decide) (by decide)
  obtain ⟨b49, g49⟩ : ∃ z, z = h44.size := ⟨_, rfl⟩
  rw [← g49] at A49 D49 U49 st49
  have gn49 : n0 ≤ b49 := Nat.le_trans (own_sz Ol47) (Nat.le_of_eq g49.symm)
  have neb3_49 : b3 ≠ b49 := Nat.ne_of_lt (Nat.lt_of_lt_of_le f48.lt (Nat.le_of_eq g49.symm))
  have neb6_49 : b6 ≠ b49 := Nat.ne_of_lt (Nat.lt_of_lt_of_le V44.lt (Nat.le_of_eq g49.symm))
  have Y49 := Safe.ext E49 CH46.1 (Safe.new (x := b49) (Nat.le_of_eq g49.symm))
  have CH50 := CH46.trans (CHr.ext E49 CH46.1)
  have hk50 := Nat.le_trans hk46 E49.1
  have Ol51 := Ol47.ext E49
  have Fcoder_49 : Fld Z h49 b49 "java/lang/String" "coder" "B" (.int (0 : Int32)) := D49 (Or.inr (ow38 hw)) (ty := .byte) (by decide)
  have Fvalue_49 : Fld Z h49 b49 "java/lang/String" "value" "[B" .null := D49 (Or.inr (ow40 hw)) (ty := (.array .byte)) (by decide)
  have f52 := (f48.ext E49)
  obtain ⟨_, _, ⟨T53, L53, k53, n53⟩, -, Xr53, hSr53, hgr53, ⟨Lc53, hQ53, l53, y53, z53, CR53⟩, st53⟩ := X49.specialBackS hx (y := my1) rfl hown (mvT hZ (ow15 hw)) (mvT hZ (ow16 hw)) (mvT hZ (ow17 hw)) (by decide) (backOfSH (W := 1) (rme1 l Z a0 hw [] b49 b3 k3  h49 n0 Ol51 A49 Fvalue_49 Fcoder_49 gn49 f52) hZ (ow17 hw) (ow14 hw) (by decide) (by decide) (own_EW hw) CH50.1) (g := (FL m x0 x1 x2 x3 x4 x5 350 (VI 0) (VR b3) (VR b6) (VI 0) (VI 0) .unset [(.ref b3), (.ref b49), (.ref b49)])) rfl (by rw [hml]; rfl) (Steps.refl _) (a := b49) (argsL := [(.ref b3)]) (rest := [(.ref b49)]) (lenOf pd28 rfl) rfl (w0 rfl rfl) (B at_350) (fun _ _ => ⟨rfl, e49, (by decide : 3 + 4 ≤ _), (by decide : 6 + 8 ≤ _)⟩)
  dsimp only [Pt.U, Pt.locs, Pt.cells, Pt.slots] at Xr53 hSr53 hgr53 l53 y53 z53 CR53 st53 hQ53
  rw [l53, y53, z53] at Xr53
  obtain ⟨X53, hS53, hZ53, hown53⟩ := rebS hS0 (by rw [e49]; exact hk50) Xr53 hSr53 hgr53 hZ hown
  have hk53 : T53.heap.size ≤ T53.heap.size := Nat.le_refl _
  obtain ⟨rfl, Nq53, kp53, Sp53⟩ := hQ53
  have N54 := Fr.app N47 Nq53
  have f55 := (V44.ext E49)
  have CH56 := CH50.trans CR53
  have Ol57 := Ol51.keep kp53 (allS gn49 all0)
  obtain ⟨sEI, sCI, spI, slI, tI, skI, sVI, sAI⟩ := id Sp53
  obtain ⟨_, _, ⟨T58, L58, k58, n58⟩, -, Xr58, hSr58, hgr58, ⟨Lc58, hQ58, l58, y58, z58, CR58⟩, st58⟩ := callSS X53 hx (y := my33) hown53 (mvT hZ53 (ow41 hw)) (mvT hZ53 (ow42 hw)) (mvT hZ53 (ow43 hw)) (mvT hZ53 (ow44 hw)) (by decide) (backOfSH (W := 0) (rmqa l Z a0 hw [] b49 ([] : List Int32) G1 fm T53.heap n0 Ol57 O2 P5 O4 rf ⟨sEI, sCI, spI, slI, tI, skI, sVI, sAI⟩ (by decide)) hZ53 (ow44 hw) (ow43 hw) (by decide) (by decide) (own_EW hw) CH56.1) (g := (FL m x0 x1 x2 x3 x4 x5 353 (VI 0) (VR b3) (VR b6) (VI 0) (VI 0) .unset [(.ref b49)])) rfl (by rw [hml]; rfl) (argsL := [(.ref b49)]) (rest := []) (lenOf pd29 rfl) rfl (w0 rfl rfl) (B at_353) (fun _ _ => ⟨rfl, rfl, (by decide : 7 + 8 ≤ _), (by decide : 14 + 105 ≤ _)⟩)
  dsimp only [Pt.U, Pt.locs, Pt.cells, Pt.slots] at Xr58 hSr58 hgr58 l58 y58 z58 CR58 st58 hQ58
  rw [l58, y58, z58] at Xr58
  obtain ⟨X58, hS58, hZ58, hown58⟩ := rebS hS53 hk53 Xr58 hSr58 hgr58 hZ53 hown53
  have hk58 : T58.heap.size ≤ T58.heap.size := Nat.le_refl _
  obtain ⟨qb58, rfl, Nq58, kp58, Sq58⟩ := hQ58
  have N59 := Fr.app N54 Nq58
  have f60 := (f52.keep kp53 (ninS neb3_49 nin0))
  have f61 := (f55.keep kp53 (ninS neb6_49 nin0))
  have CH62 := CH56.trans CR58
  have Ol63 := Ol57.keep kp58 all0
  obtain ⟨sEQ, sCQ, spQ, slQ, tQ, skQ, sVQ, sAQ⟩ := id Sq58
  have f64 := (f60.keep kp58 nin0)
  have f65 := (f61.keep kp58 nin0)
  have f66 := (sEI.keep kp58)
  have f67 := (sAI.keep kp58 nin0)
  obtain ⟨T68, h68, X68, e68, E68, A68, D68, U68, st68⟩ := newO X58 hx hZ58 hown58 (ow12 hw) (ow13 hw) (ow14 hw) rfl (g := (FL m x0 x1 x2 x3 x4 x5 360 (VI 0) (VR b3) (VR b6) (VI 0) (VI 0) (VR qb58) [(.ref qb58)])) rfl (B at_360) (by decide) (by decide)
  obtain ⟨b68, g68⟩ : ∃ z, z = T58.heap.size := ⟨_, rfl⟩
  rw [← g68] at A68 D68 U68 st68
  have gn68 : n0 ≤ b68 := Nat.le_trans (own_sz Ol63) (Nat.le_of_eq g68.symm)
  have neb3_68 : b3 ≠ b68 := Nat.ne_of_lt (Nat.lt_of_lt_of_le f64.lt (Nat.le_of_eq g68.symm))
  have neb6_68 : b6 ≠ b68 := Nat.ne_of_lt (Nat.lt_of_lt_of_le f65.lt (Nat.le_of_eq g68.symm))
  have neb49_68 : b49 ≠ b68 := Nat.ne_of_lt (Nat.lt_of_lt_of_le f66.lt (Nat.le_of_eq g68.symm))
  have netI_68 : tI ≠ b68 := Nat.ne_of_lt (Nat.lt_of_lt_of_le f67.lt (Nat.le_of_eq g68.symm))
  have neqb58_68 : qb58 ≠ b68 := Nat.ne_of_lt (Nat.lt_of_lt_of_le sEQ.lt (Nat.le_of_eq g68.symm))
  have netQ_68 : tQ ≠ b68 := Nat.ne_of_lt (Nat.lt_of_lt_of_le sAQ.lt (Nat.le_of_eq g68.symm))
  have Y68 := Safe.ext E68 CH62.1 (Safe.new (x := b68) (Nat.le_of_eq g68.symm))
  have CH69 := CH62.trans (CHr.ext E68 CH62.1)
  have hk69 := Nat.le_trans hk58 E68.1
  have Ol70 := Ol63.ext E68
  have Fcoder_68 : Fld Z h68 b68 "java/lang/String" "coder" "B" (.int (0 : Int32)) := D68 (Or.inr (ow38 hw)) (ty := .byte) (by decide)
  have Fvalue_68 : Fld Z h68 b68 "java/lang/String" "value" "[B" .null := D68 (Or.inr (ow40 hw)) (ty := (.array .byte)) (by decide)
  have f71 := (f65.ext E68)
  obtain ⟨_, _, ⟨T72, L72, k72, n72⟩, -, X72, ⟨Lc72, hQ72, l72, y72, z72⟩, st72⟩ := X68.specialBack hx (y := my1) rfl hown58 (mvT hZ58 (ow15 hw)) (mvT hZ58 (ow16 hw)) (mvT hZ58 (ow17 hw)) (by decide) (StrChars.Road.backV (W := 2) hZ58 (own_ws hw) (kI := 4) (ow13 hw) (cs := (List.set (List.set (List.replicate 2 (0 : Int32)) 0 (34 : Int32)) 1 (34 : Int32))) (bs := List.map (fun c => c.toInt8.toInt32) (List.set (List.set (List.replicate 2 (0 : Int32)) 0 (34 : Int32)) 1 (34 : Int32))) (n := 2) gn68 (own_sz Ol70) A68 Fvalue_68 Fcoder_68 f71 (O2.ext Ol70.2) P5 (by rw [List.length_set]; exact (by rw [List.length_set]; exact (by simp only [List.length_replicate]))) rfl (by decide) (by decide) (own_setb (own_setb (own_rep0 2) 0 (by decide)) 1 (by decide)) rfl (by decide) (by decide)) (g := (FL m x0 x1 x2 x3 x4 x5 366 (VI 0) (VR b3) (VR b6) (VI 0) (VI 0) (VR qb58) [(.ref b6), (.ref b68), (.ref b68), (.ref qb58)])) rfl (by rw [hml]; rfl) (Steps.refl _) (a := b68) (argsL := [(.ref b6)]) (rest := [(.ref b68), (.ref qb58)]) (lenOf pd28 rfl) rfl (w0 rfl rfl) (B at_366) (fun _ _ => ⟨rfl, e68, (by decide : 16 + 1 ≤ _), (by decide : 123 + 2 ≤ _)⟩)
  dsimp only [Pt.U, Pt.locs, Pt.cells, Pt.slots] at X72 l72 y72 z72 st72 hQ72
  rw [l72, y72, z72] at X72
  obtain ⟨rfl, Nq72, kp72, sE72, sC72, t72, k72_, -, -, -, sV72, sA72⟩ := hQ72
  have ln72 : List.length (List.set (List.set (List.replicate 2 (0 : Int32)) 0 (34 : Int32)) 1 (34 : Int32)) = 2 := (by rw [List.length_set]; exact (by rw [List.length_set]; exact (by simp only [List.length_replicate])))
  have Sp72 : StrP Z _ b68 (List.set (List.set (List.replicate 2 (0 : Int32)) 0 (34 : Int32)) 1 (34 : Int32)) := ⟨sE72, sC72, (own_setb (own_setb (own_rep0 2) 0 (by decide)) 1 (by decide)), (by rw [ln72]; decide), t72, k72_, sV72, (by rw [ln72]; exact sA72)⟩
  have N73 := Fr.app N59 Nq72
  have CH74 := CH69.trans (CHr.keep kp72 (sfS Y68 sf0) CH69.1)
  have hk74 := Nat.le_trans hk69 kp72.1
  have Ol75 := Ol70.keep kp72 (allS gn68 all0)
  obtain ⟨sEO, sCO, spO, slO, tO, skO, sVO, sAO⟩ := id Sp72
  have f76 := ((sEQ.ext E68).keep kp72)
  have f77 := ((sVQ.ext E68).keep kp72 (ninS neqb58_68 nin0))
  have f78 := ((sCQ.ext E68).keep kp72 (ninS neqb58_68 nin0))
  have f79 := ((sAQ.ext E68).keep kp72 (ninS netQ_68 nin0))
  obtain ⟨cq80, kq80, q80a, q80b, q80c⟩ := isOf hZ58 rfl f76
  obtain ⟨_, _, ⟨T80, L80, k80, n80⟩, -, X80, ⟨Lc80, hQ80, l80, y80, z80⟩, st80⟩ := X72.virtualBack hx (y := my36) (z := my36) hown58 (mvT hZ58 (ow156 hw)) (mvT hZ58 (ow157 hw)) (notFace_of_selects (args := #[]) (mvT hZ58 (ow159 hw))) (mvT hZ58 (ow159 hw)) (mvT hZ58 (ow158 hw)) (by decide) (StrChars.Road.eqW (W := 0) hZ58 (own_weq hw) (kI := 4) (ow13 hw) f76 f77 f78 f79 (StrChars.Road.codOf rfl (fun c hc => (spQ c hc).2)) (own_up _ spQ) slQ sEO sVO sCO sAO (StrChars.Road.codOf rfl (fun c hc => (spO c hc).2)) (own_up _ spO) slO (O2.ext Ol75.2) P5 (by decide) (by decide)) q80a q80c (g := (FL m x0 x1 x2 x3 x4 x5 369 (VI 0) (VR b3) (VR b6) (VI 0) (VI 0) (VR qb58) [(.ref b68), (.ref qb58)])) rfl (by rw [hml]; rfl) (Steps.refl _) (argsL := [(.ref b68)]) (rest := []) (lenOf pd30 rfl) rfl (w0 rfl rfl) (B at_369) (fun _ _ => ⟨rfl, rfl, (by decide : 17 + 0 ≤ _), (by decide : 125 + 0 ≤ _)⟩)
  dsimp only [Pt.U, Pt.locs, Pt.cells, Pt.slots] at X80 l80 y80 z80 st80 hQ80
  rw [l80, y80, z80] at X80
  obtain ⟨hor80, hL80, eq80⟩ := hQ80
  obtain rfl := own_eqv hor80
  have Nq80 := own_frn hL80 n0
  have N81 := Fr.app N73 Nq80
  have hAB : (qs ([] : List Int32)) = (List.set (List.set (List.replicate 2 (0 : Int32)) 0 (34 : Int32)) 1 (34 : Int32)) := by rfl
  have pre82 : ∀ tgt, Steps p.tables e below (T80.setTop (FL m x0 x1 x2 x3 x4 x5 372 (VI 0) (VR b3) (VR b6) (VI 0) (VI 0) (VR qb58) [(.int (if (qs ([] : List Int32)) = (List.set (List.set (List.replicate 2 (0 : Int32)) 0 (34 : Int32)) 1 (34 : Int32)) then (1 : Int32) else (0 : Int32)))])) tgt → Steps p.tables e below (s₁.setTop (entryFrame m #[(.int x0), (.int x1), (.int x2), (.int x3), (.int x4), (.int x5)] maxLocals)) tgt := by
    intro tgt kgo
    refine pre2 _ ?_
    refine XS.iload X0.here hx rfl (B at_7) rfl ?_
    refine XS.ifNo X0.here hx rfl (B at_9) rfl ((if0 _ _).trans (teq (by decide : (0 : Int32) = (0 : Int32))).2) ?_
    show GO p e below s₁ (FL m x0 x1 x2 x3 x4 x5 12 (VI 0) .unset .unset .unset .unset .unset []) _
    refine XS.iconst X0.here hx rfl (B at_12) ?_
    refine st3 _ ?_
    show GO p e below T3 (FL m x0 x1 x2 x3 x4 x5 15 (VI 0) .unset .unset .unset .unset .unset [(.ref b3)]) _
    refine XS.astore X3.here hx rfl (B at_15) rfl rfl (l' := #[.val (.int x0), .val (.int x1), .val (.int x2), .val (.int x3), .val (.int x4), .val (.int x5), .val (.int (0 : Int32)), .val (.ref b3), .unset, .unset, .unset, .unset]) rfl ?_
    refine XS.iconst X3.here hx rfl (B at_17) ?_
    refine st6 _ ?_
    show GO p e below T6 (FL m x0 x1 x2 x3 x4 x5 20 (VI 0) (VR b3) .unset .unset .unset .unset [(.ref b6)]) _
    refine XS.astore X6.here hx rfl (B at_20) rfl rfl (l' := #[.val (.int x0), .val (.int x1), .val (.int x2), .val (.int x3), .val (.int x4), .val (.int x5), .val (.int (0 : Int32)), .val (.ref b3), .val (.ref b6), .unset, .unset, .unset]) rfl ?_
    refine XS.goto X6.here hx rfl (pc0 := 22) (pc' := 158) rfl (B at_22) (by decide) (by decide) ?_
    refine XS.aload X6.here hx rfl (B at_158) rfl rfl ?_
    refine X6.arraylength hx (by rw [e6]; exact Ar12.1) (State.isArrayOf_alike hZ.alike Ar12.2.1) (g := (mkF m 160 #[.val (.int x0), .val (.int x1), .val (.int x2), .val (.int x3), .val (.int x4), .val (.int x5), .val (.int (0 : Int32)), .val (.ref b3), .val (.ref b6), .unset, .unset, .unset] [(.ref b3)])) rfl rfl (B at_160) _ ?_
    rw [len_of S12 M12]
    show GO p e below T6 (FL m x0 x1 x2 x3 x4 x5 161 (VI 0) (VR b3) (VR b6) .unset .unset .unset [(.int 0)]) _
    refine XS.istore X6.here hx rfl (B at_161) rfl (l' := #[.val (.int x0), .val (.int x1), .val (.int x2), .val (.int x3), .val (.int x4), .val (.int x5), .val (.int (0 : Int32)), .val (.ref b3), .val (.ref b6), .val (.int (0 : Int32)), .unset, .unset]) rfl ?_
    refine XS.aload X6.here hx rfl (B at_163) rfl rfl ?_
    refine XS.iconst X6.here hx rfl (B at_165) ?_
    refine XS.iloadN X6.here hx rfl (B at_166) rfl ?_
    refine st13 _ ?_
    show GO p e below T13 (FL m x0 x1 x2 x3 x4 x5 170 (VI 0) (VR b3) (VR b6) (VI 0) .unset .unset []) _
    refine XS.aload X13.here hx rfl (B at_170) rfl rfl ?_
    refine XS.iconst X13.here hx rfl (B at_172) ?_
    refine XS.iloadN X13.here hx rfl (B at_173) rfl ?_
    refine st15 _ ?_
    show GO p e below T15 (FL m x0 x1 x2 x3 x4 x5 177 (VI 0) (VR b3) (VR b6) (VI 0) .unset .unset []) _
    refine XS.aload X15.here hx rfl (B at_177) rfl rfl ?_
    refine XS.bipush X15.here hx rfl (B at_179) ?_
    refine XS.iloadN X15.here hx rfl (B at_181) rfl ?_
    refine st17 _ ?_
    show GO p e below T17 (FL m x0 x1 x2 x3 x4 x5 185 (VI 0) (VR b3) (VR b6) (VI 0) .unset .unset []) _
    refine XS.aload X17.here hx rfl (B at_185) rfl rfl ?_
    refine XS.bipush X17.here hx rfl (B at_187) ?_
    refine XS.iloadN X17.here hx rfl (B at_189) rfl ?_
    refine st19 _ ?_
    show GO p e below T19 (FL m x0 x1 x2 x3 x4 x5 193 (VI 0) (VR b3) (VR b6) (VI 0) .unset .unset []) _
    refine XS.aload X19.here hx rfl (B at_193) rfl rfl ?_
    refine XS.bipush X19.here hx rfl (B at_195) ?_
    refine XS.iload X19.here hx rfl (B at_197) rfl ?_
    refine st21 _ ?_
    show GO p e below T21 (FL m x0 x1 x2 x3 x4 x5 202 (VI 0) (VR b3) (VR b6) (VI 0) .unset .unset []) _
    refine XS.aload X21.here hx rfl (B at_202) rfl rfl ?_
    refine XS.iload X21.here hx rfl (B at_204) rfl ?_
    refine XS.iconst X21.here hx rfl (B at_206) ?_
    refine XS.isub X21.here hx rfl (B at_207) rfl ?_
    refine XS.iload X21.here hx rfl (B at_208) rfl ?_
    refine XS.bipush X21.here hx rfl (B at_210) ?_
    refine XS.iushr X21.here hx rfl (B at_212) rfl ?_
    refine st23 _ ?_
    show GO p e below T23 (FL m x0 x1 x2 x3 x4 x5 216 (VI 0) (VR b3) (VR b6) (VI 0) .unset .unset []) _
    refine XS.iload X23.here hx rfl (B at_216) rfl ?_
    refine XS.bipush X23.here hx rfl (B at_218) ?_
    refine st25 _ ?_
    show GO p e below T25 (FL m x0 x1 x2 x3 x4 x5 223 (VI 0) (VR b3) (VR b6) (VI 0) .unset .unset [(.int 0)]) _
    refine XS.istore X25.here hx rfl (B at_223) rfl (l' := #[.val (.int x0), .val (.int x1), .val (.int x2), .val (.int x3), .val (.int x4), .val (.int x5), .val (.int (0 : Int32)), .val (.ref b3), .val (.ref b6), .val (.int (0 : Int32)), .val (.int (0 : Int32)), .unset]) rfl ?_
    refine XS.aload X25.here hx rfl (B at_225) rfl rfl ?_
    refine XS.iconst X25.here hx rfl (B at_227) ?_
    refine XS.bipush X25.here hx rfl (B at_228) ?_
    refine st28 _ ?_
    show GO p e below T28 (FL m x0 x1 x2 x3 x4 x5 231 (VI 0) (VR b3) (VR b6) (VI 0) (VI 0) .unset []) _
    refine XS.aload X28.here hx rfl (B at_231) rfl rfl ?_
    refine XS.aload X28.here hx rfl (B at_233) rfl rfl ?_
    refine XS.iconst X28.here hx rfl (B at_235) ?_
    refine XS.iload X28.here hx rfl (B at_236) rfl ?_
    refine st31 _ ?_
    show GO p e below T31 (FL m x0 x1 x2 x3 x4 x5 241 (VI 0) (VR b3) (VR b6) (VI 0) (VI 0) .unset []) _
    refine XS.aload X31.here hx rfl (B at_241) rfl rfl ?_
    refine XS.aload X31.here hx rfl (B at_243) rfl rfl ?_
    refine XS.iconst X31.here hx rfl (B at_245) ?_
    refine XS.iload X31.here hx rfl (B at_246) rfl ?_
    refine st33 _ ?_
    show GO p e below T33 (FL m x0 x1 x2 x3 x4 x5 251 (VI 0) (VR b3) (VR b6) (VI 0) (VI 0) .unset []) _
    refine XS.aload X33.here hx rfl (B at_251) rfl rfl ?_
    refine XS.aload X33.here hx rfl (B at_253) rfl rfl ?_
    refine XS.bipush X33.here hx rfl (B at_255) ?_
    refine XS.iload X33.here hx rfl (B at_257) rfl ?_
    refine st35 _ ?_
    show GO p e below T35 (FL m x0 x1 x2 x3 x4 x5 262 (VI 0) (VR b3) (VR b6) (VI 0) (VI 0) .unset []) _
    refine XS.aload X35.here hx rfl (B at_262) rfl rfl ?_
    refine XS.aload X35.here hx rfl (B at_264) rfl rfl ?_
    refine XS.bipush X35.here hx rfl (B at_266) ?_
    refine XS.iload X35.here hx rfl (B at_268) rfl ?_
    refine st37 _ ?_
    show GO p e below T37 (FL m x0 x1 x2 x3 x4 x5 273 (VI 0) (VR b3) (VR b6) (VI 0) (VI 0) .unset []) _
    refine XS.aload X37.here hx rfl (B at_273) rfl rfl ?_
    refine XS.aload X37.here hx rfl (B at_275) rfl rfl ?_
    refine XS.bipush X37.here hx rfl (B at_277) ?_
    refine XS.iload X37.here hx rfl (B at_279) rfl ?_
    refine st39 _ ?_
    show GO p e below T39 (FL m x0 x1 x2 x3 x4 x5 284 (VI 0) (VR b3) (VR b6) (VI 0) (VI 0) .unset []) _
    refine XS.aload X39.here hx rfl (B at_284) rfl rfl ?_
    refine XS.aload X39.here hx rfl (B at_286) rfl rfl ?_
    refine XS.iload X39.here hx rfl (B at_288) rfl ?_
    refine XS.iconst X39.here hx rfl (B at_290) ?_
    refine XS.isub X39.here hx rfl (B at_291) rfl ?_
    refine XS.iload X39.here hx rfl (B at_292) rfl ?_
    refine st41 _ ?_
    show GO p e below T41 (FL m x0 x1 x2 x3 x4 x5 297 (VI 0) (VR b3) (VR b6) (VI 0) (VI 0) .unset []) _
    refine XS.iload X41.here hx rfl (B at_297) rfl ?_
    refine XS.bipush X41.here hx rfl (B at_299) ?_
    refine XS.icmpYes X41.here hx rfl (pc0 := 301) (pc' := 335) rfl (B at_301) rfl (flt (by decide : ¬ ((60 : Int32) < (0 : Int32)))).2.2.2 (by decide) (by decide) ?_
    show GO p e below T41 (FL m x0 x1 x2 x3 x4 x5 335 (VI 0) (VR b3) (VR b6) (VI 0) (VI 0) .unset []) _
    refine XS.aload X41.here hx rfl (B at_335) rfl rfl ?_
    refine XS.iload X41.here hx rfl (B at_337) rfl ?_
    refine XS.iconst X41.here hx rfl (B at_339) ?_
    refine XS.iadd X41.here hx rfl (B at_340) rfl ?_
    refine XS.bipush X41.here hx rfl (B at_341) ?_
    refine st44 _ ?_
    show GO p e below T44 (FL m x0 x1 x2 x3 x4 x5 344 (VI 0) (VR b3) (VR b6) (VI 0) (VI 0) .unset []) _
    refine st49 _ ?_
    show GO p e below T49 (FL m x0 x1 x2 x3 x4 x5 347 (VI 0) (VR b3) (VR b6) (VI 0) (VI 0) .unset [(.ref b49)]) _
    refine XS.dup X49.here hx rfl (B at_347) rfl rfl ?_
    refine XS.aload X49.here hx rfl (B at_348) rfl rfl ?_
    refine st53.trans ?_
    show GO p e below T53 (FL m x0 x1 x2 x3 x4 x5 353 (VI 0) (VR b3) (VR b6) (VI 0) (VI 0) .unset [(.ref b49)]) _
    refine st58.trans ?_
    show GO p e below T58 (FL m x0 x1 x2 x3 x4 x5 356 (VI 0) (VR b3) (VR b6) (VI 0) (VI 0) .unset [(.ref qb58)]) _
    refine XS.astore X58.here hx rfl (B at_356) rfl rfl (l' := #[.val (.int x0), .val (.int x1), .val (.int x2), .val (.int x3), .val (.int x4), .val (.int x5), .val (.int (0 : Int32)), .val (.ref b3), .val (.ref b6), .val (.int (0 : Int32)), .val (.int (0 : Int32)), .val (.ref qb58)]) rfl ?_
    refine XS.aload X58.here hx rfl (B at_358) rfl rfl ?_
    refine st68 _ ?_
    show GO p e below T68 (FL m x0 x1 x2 x3 x4 x5 363 (VI 0) (VR b3) (VR b6) (VI 0) (VI 0) (VR qb58) [(.ref b68), (.ref qb58)]) _
    refine XS.dup X68.here hx rfl (B at_363) rfl rfl ?_
    refine XS.aload X68.here hx rfl (B at_364) rfl rfl ?_
    refine st72.trans ?_
    show GO p e below T72 (FL m x0 x1 x2 x3 x4 x5 369 (VI 0) (VR b3) (VR b6) (VI 0) (VI 0) (VR qb58) [(.ref b68), (.ref qb58)]) _
    refine st80.trans ?_
    show GO p e below T80 (FL m x0 x1 x2 x3 x4 x5 372 (VI 0) (VR b3) (VR b6) (VI 0) (VI 0) (VR qb58) [(.int (if (qs ([] : List Int32)) = (List.set (List.set (List.replicate 2 (0 : Int32)) 0 (34 : Int32)) 1 (34 : Int32)) then (1 : Int32) else (0 : Int32)))]) _
    exact kgo
  have pre83 : ∀ tgt, Steps p.tables e below (T80.setTop (FL m x0 x1 x2 x3 x4 x5 372 (VI 0) (VR b3) (VR b6) (VI 0) (VI 0) (VR qb58) [(.int 1)])) tgt → Steps p.tables e below (s₁.setTop (entryFrame m #[(.int x0), (.int x1), (.int x2), (.int x3), (.int x4), (.int x5)] maxLocals)) tgt := by
    have q := pre82
    rw [if_pos hAB] at q
    exact q
  obtain ⟨fs, hretL, hrun, hended, hEnd⟩ := Stand.leaveW X80 hS58 (by rw [eq80]; exact hk74) (v := some (.int (1 : Int32))) (fun h => by rw [Bd.returns] at h; cases h)
  have hCf : CHr Z EL0 s.vm s.heap T80.vm T80.heap := by rw [hh, eq80]; exact CH74.trans (CHv.at X80 hZ58 (own_EW hw) CH74.1)
  refine ⟨_, _, pre83 _ ?_, hrun, hended, _, _, rfl, ?_, hCf, hEnd.1, hEnd.2.1, hEnd.2.2.1, hEnd.2.2.2.mono (by decide) (by decide)⟩
  · exact retOut X80 hx Bd.returns rfl (Or.inl ⟨rfl, Or.inr (Or.inl rfl), _, rfl⟩) (B at_372) hretL
  · show Q_rm0k0 Z x0 x1 x2 x3 x4 x5 G1 fm h0 n0 _ T80.heap _
    rw [eq80]
    exact ⟨rfl, N81⟩
def Q_rm0k1 (Z : State) (x0 : Int32) (x1 : Int32) (x2 : Int32) (x3 : Int32) (x4 : Int32) (x5 : Int32) (G1 : Int32) (fm : Value) (h0 : Heap) (n0 : Nat) (v : Option Value) (h : Heap) (L : List Loc) : Prop := v = some (.int (1 : Int32)) ∧ Fr n0 L
set_option maxRecDepth 65536 in
set_option maxHeartbeats 40000000 in
theorem rm0k1 (l : Launch) (Z : State) (a0 : Array Value) (hw : HW a0 Z) (ws : List Jvm.Cond) (x0 : Int32) (x1 : Int32) (x2 : Int32) (x3 : Int32) (x4 : Int32) (x5 : Int32) (G1 : Int32) (fm : Value) (h0 : Heap) (n0 : Nat) (O0 : Old Z n0 h0) (hkc : (x5 &&& (7 : Int32)) = (1 : Int32)) (O2 : Sta Z Z.heap "java/lang/String" "COMPACT_STRINGS" "Z" (.int G1)) (P5 : ¬ (G1 = (0 : Int32))) (O4 : Sta Z Z.heap "jdk/internal/util/Preconditions" "SIOOBE_FORMATTER" "Ljava/util/function/BiFunction;" fm) (rf : fm.isRef = true) :
    MetFree l x (head1 (Jvm.Cond.code x code maxLocals ret :: ws) room_1) (fun aa U => aa = #[(.int x0), (.int x1), (.int x2), (.int x3), (.int x4), (.int x5)] ∧ Z.Warmed39 U.vm ∧ U.heap = h0 ∧ CHv Z EL0 U.vm h0) (fun _ _ _ _ _ => True) (fun _ U o U' => ∃ v L, o = .returned v ∧ Q_rm0k1 Z x0 x1 x2 x3 x4 x5 G1 fm h0 n0 v U'.heap L ∧ CHr Z EL0 U.vm U.heap U'.vm U'.heap ∧ ReturnedEndW U o U' L 26 1745) := by
  refine MetFree.of_bodySF (plainFor_of_name pn8) hisR ?_
  intro p e s m args below meth c s₁ Bd hml0 hP hK
  obtain ⟨rfl, hZ, hh, hCH⟩ := hP
  have hx := Bd.exec
  have hby := Bd.bytes
  have B := fun {pc : Nat} {r} (h : decode code pc = r) => hb hby h
  have hml : c.maxLocals = 12 := hml0
  have hown : s.vm.findClass "com/example/atropos/atropos/io/CurveTextQuotePinLaw" = some m.cls := findClass_of_methodNamed Bd.named
  have hnm := (name_of_methodNamed Bd.named Bd.method).1
  have X0 : Stand p l e room_1 (s.setVm s.vm) m #[(.int x0), (.int x1), (.int x2), (.int x3), (.int x4), (.int x5)] below meth c s₁ [] 0 0 := Stand.of_body Bd
  have e0 : s₁.heap = h0 := by rw [← hh, Bd.state]; rfl
  have N0 := Fr.nil n0
  have pre0 : ∀ tgt, Steps p.tables e below (s₁.setTop (mkF m 0 #[.val (.int x0), .val (.int x1), .val (.int x2), .val (.int x3), .val (.int x4), .val (.int x5), .unset, .unset, .unset, .unset, .unset, .unset] [])) tgt → Steps p.tables e below (s₁.setTop (entryFrame m #[(.int x0), (.int x1), (.int x2), (.int x3), (.int x4), (.int x5)] maxLocals)) tgt := fun tgt kgo => castTop (ef_rm0k0 m x0 x1 x2 x3 x4 x5) kgo
  have hS0 : s.Since s.vm 0 := (State.WarmedH.refl s).since 0
  have hk0 : 0 ≤ h0.size := Nat.zero_le _
  have CH0 : CHr Z EL0 s.vm h0 s.vm h0 := CHr.refl hCH
  have pre1 : ∀ tgt, Steps p.tables e below (s₁.setTop (FL m x0 x1 x2 x3 x4 x5 7 (VI (x5 &&& (7 : Int32))) .unset .unset .unset .unset .unset [])) tgt → Steps p.tables e below (s₁.setTop (entryFrame m #[(.int x0), (.int x1), (.int x2), (.int x3), (.int x4), (.int x5)] maxLocals)) tgt := by
    intro tgt kgo
    refine pre0 _ ?_
    refine XS.iload X0.here hx rfl (B at_0) rfl ?_
    refine XS.bipush X0.here hx rfl (B at_2) ?_
    refine XS.iand X0.here hx rfl (B at_4) rfl ?_
    refine XS.istore X0.here hx rfl (B at_5) rfl (l' := #[.val (.int x0), .val (.int x1), .val (.int x2), .val (.int x3), .val (.int x4), .val (.int x5), .val (.int (x5 &&& (7 : Int32))), .unset, .unset, .unset, .unset, .unset]) rfl ?_
    exact kgo
  have pre2 : ∀ tgt, Steps p.tables e below (s₁.setTop (FL m x0 x1 x2 x3 x4 x5 7 (VI 1) .unset .unset .unset .unset .unset [])) tgt → Steps p.tables e below (s₁.setTop (entryFrame m #[(.int x0), (.int x1), (.int x2), (.int x3), (.int x4), (.int x5)] maxLocals)) tgt := by
    have q := pre1
    rw [hkc] at q
    exact q
  obtain ⟨T3, h3, k3, X3, e3, E3, A3, st3⟩ := newP (aty := .char) X0 hx hZ (ow0 hw) e0 (g := (FL m x0 x1 x2 x3 x4 x5 32 (VI 1) .unset .unset .unset .unset .unset [(.int 1)])) rfl (B at_32) rfl (by decide) (cap := 1) (by decide) (by decide) (by decide) (by decide)
  obtain ⟨b3, g3⟩ : ∃ z, z = h0.size := ⟨_, rfl⟩
  rw [← g3] at A3 st3
  have V3 : Arv Z h3 b3 k3 .char (1 : Int32) (List.replicate 1 (.int (0 : Int32))) (.int (0 : Int32)) := (Arv.new A3 (by decide)).pad (pad_rep [] (.int (0 : Int32)) 1)
  have gn3 : n0 ≤ b3 := Nat.le_trans (own_sz O0) (Nat.le_of_eq g3.symm)
  have Y3 := Safe.ext E3 CH0.1 (Safe.new (x := b3) (Nat.le_of_eq g3.symm))
  have CH4 := CH0.trans (CHr.ext E3 CH0.1)
  have hk4 := Nat.le_trans hk0 E3.1
  have Ol5 := O0.ext E3
  obtain ⟨T6, h6, k6, X6, e6, E6, A6, st6⟩ := newP (aty := .char) X3 hx hZ (ow0 hw) e3 (g := (FL m x0 x1 x2 x3 x4 x5 37 (VI 1) (VR b3) .unset .unset .unset .unset [(.int 3)])) rfl (B at_37) rfl (by decide) (cap := 3) (by decide) (by decide) (by decide) (by decide)
  obtain ⟨b6, g6⟩ : ∃ z, z = h3.size := ⟨_, rfl⟩
  rw [← g6] at A6 st6
  have V6 : Arv Z h6 b6 k6 .char (3 : Int32) (List.replicate 3 (.int (0 : Int32))) (.int (0 : Int32)) := (Arv.new A6 (by decide)).pad (pad_rep [] (.int (0 : Int32)) 3)
  have gn6 : n0 ≤ b6 := Nat.le_trans (own_sz Ol5) (Nat.le_of_eq g6.symm)
  have neb3_6 : b3 ≠ b6 := Nat.ne_of_lt (Nat.lt_of_lt_of_le V3.lt (Nat.le_of_eq g6.symm))
  have Y6 := Safe.ext E6 CH4.1 (Safe.new (x := b6) (Nat.le_of_eq g6.symm))
  have CH7 := CH4.trans (CHr.ext E6 CH4.1)
  have hk7 := Nat.le_trans hk4 E6.1
  have Ol8 := Ol5.ext E6
  have f10 := (V3.ext E6)
  have Vm9 : Arv Z h6 b3 k3 .char (1 : Int32) (List.map Value.int (List.replicate 1 (0 : Int32))) (.int (0 : Int32)) := by have q := f10; rw [List.map_replicate]; exact q
  have Vm11 : Arv Z h6 b6 k6 .char (3 : Int32) (List.map Value.int (List.replicate 3 (0 : Int32))) (.int (0 : Int32)) := by have q := V6; rw [List.map_replicate]; exact q
  obtain ⟨cl12, Ar12, q12, S12, M12, H12, G12⟩ := id Vm9
  obtain ⟨_, _, ⟨T13, L13, k13, n13⟩, -, X13, ⟨Lc13, hQ13, l13, y13, z13⟩, st13⟩ := Jvm.LawKit.callS X6 hx (y := my34) hown (mvT hZ (ow1 hw)) (mvT hZ (ow2 hw)) (mvT hZ (ow3 hw)) (mvT hZ (ow4 hw)) (by decide) (backOf (W := 0) (rmpi l Z a0 hw [] b3 (0 : Int32) x0 k3 (List.replicate 1 (0 : Int32)) 0 1 h6 n0 Ol8 Vm9 (by simp only [List.length_replicate]) rfl (by decide) (by decide) gn3) hZ (ow4 hw) (ow3 hw) (by decide) (by decide)) (g := (FL m x0 x1 x2 x3 x4 x5 167 (VI 1) (VR b3) (VR b6) (VI 1) .unset .unset [(.int x0), (.int 0), (.ref b3)])) rfl (by rw [hml]; rfl) (argsL := [(.ref b3), (.int 0), (.int x0)]) (rest := []) (lenOf pd26 rfl) rfl (w0 rfl rfl) (B at_167) (fun _ _ => ⟨rfl, e6, (by decide : 2 + 0 ≤ _), (by decide : 4 + 0 ≤ _)⟩)
  dsimp only [Pt.U, Pt.locs, Pt.cells, Pt.slots] at X13 l13 y13 z13 st13 hQ13
  rw [l13, y13, z13] at X13
  obtain ⟨rfl, Nq13, kp13, na13⟩ := hQ13
  have N14 := Fr.app N0 Nq13
  have f15 := (Safe.ext E6 CH4.1 Y3)
  have CH16 := CH7.trans (CHr.keep kp13 (sfS f15 sf0) CH7.1)
  have hk16 := Nat.le_trans hk7 kp13.1
  have Ol17 := Ol8.keep kp13 (allS gn3 all0)
  obtain ⟨cs13, hcs13⟩ : ∃ z, z = List.set (List.replicate 1 (0 : Int32)) 0 (x0 &&& (255 : Int32)) := ⟨_, rfl⟩
  rw [← hcs13] at na13
  have lc13 : List.length cs13 = 1 := by rw [hcs13, List.length_set]; exact (by simp only [List.length_replicate])
  have bc13 : Byt cs13 := by rw [hcs13]; exact own_setb (own_rep0 1) 0 (own_a255 _)
  obtain ⟨_, _, ⟨T18, L18, k18, n18⟩, -, X18, ⟨Lc18, hQ18, l18, y18, z18⟩, st18⟩ := Jvm.LawKit.callS X13 hx (y := my34) hown (mvT hZ (ow1 hw)) (mvT hZ (ow2 hw)) (mvT hZ (ow3 hw)) (mvT hZ (ow4 hw)) (by decide) (backOf (W := 0) (rmpo l Z a0 hw [] b3 (1 : Int32) x1 k3 _ (1 : Int32) T13.heap n0 Ol17 na13 (by decide)) hZ (ow4 hw) (ow3 hw) (by decide) (by decide)) (g := (FL m x0 x1 x2 x3 x4 x5 174 (VI 1) (VR b3) (VR b6) (VI 1) .unset .unset [(.int x1), (.int 1), (.ref b3)])) rfl (by rw [hml]; rfl) (argsL := [(.ref b3), (.int 1), (.int x1)]) (rest := []) (lenOf pd26 rfl) rfl (w0 rfl rfl) (B at_174) (fun _ _ => ⟨rfl, rfl, (by decide : 2 + 0 ≤ _), (by decide : 4 + 0 ≤ _)⟩)
  dsimp only [Pt.U, Pt.locs, Pt.cells, Pt.slots] at X18 l18 y18 z18 st18 hQ18
  rw [l18, y18, z18] at X18
  obtain ⟨rfl, Nq18, eq18⟩ := hQ18
  have N19 := Fr.app N14 Nq18
  obtain ⟨_, _, ⟨T20, L20, k20, n20⟩, -, X20, ⟨Lc20, hQ20, l20, y20, z20⟩, st20⟩ := Jvm.LawKit.callS X18 hx (y := my34) hown (mvT hZ (ow1 hw)) (mvT hZ (ow2 hw)) (mvT hZ (ow3 hw)) (mvT hZ (ow4 hw)) (by decide) (backOf (W := 0) (rmpo l Z a0 hw [] b3 (58 : Int32) x2 k3 _ (1 : Int32) T13.heap n0 Ol17 na13 (by decide)) hZ (ow4 hw) (ow3 hw) (by decide) (by decide)) (g := (FL m x0 x1 x2 x3 x4 x5 182 (VI 1) (VR b3) (VR b6) (VI 1) .unset .unset [(.int x2), (.int 58), (.ref b3)])) rfl (by rw [hml]; rfl) (argsL := [(.ref b3), (.int 58), (.int x2)]) (rest := []) (lenOf pd26 rfl) rfl (w0 rfl rfl) (B at_182) (fun _ _ => ⟨rfl, eq18, (by decide : 2 + 0 ≤ _), (by decide : 4 + 0 ≤ _)⟩)
  dsimp only [Pt.U, Pt.locs, Pt.cells, Pt.slots] at X20 l20 y20 z20 st20 hQ20
  rw [l20, y20, z20] at X20
  obtain ⟨rfl, Nq20, eq20⟩ := hQ20
  have N21 := Fr.app N19 Nq20
  obtain ⟨_, _, ⟨T22, L22, k22, n22⟩, -, X22, ⟨Lc22, hQ22, l22, y22, z22⟩, st22⟩ := Jvm.LawKit.callS X20 hx (y := my34) hown (mvT hZ (ow1 hw)) (mvT hZ (ow2 hw)) (mvT hZ (ow3 hw)) (mvT hZ (ow4 hw)) (by decide) (backOf (W := 0) (rmpo l Z a0 hw [] b3 (59 : Int32) x3 k3 _ (1 : Int32) T13.heap n0 Ol17 na13 (by decide)) hZ (ow4 hw) (ow3 hw) (by decide) (by decide)) (g := (FL m x0 x1 x2 x3 x4 x5 190 (VI 1) (VR b3) (VR b6) (VI 1) .unset .unset [(.int x3), (.int 59), (.ref b3)])) rfl (by rw [hml]; rfl) (argsL := [(.ref b3), (.int 59), (.int x3)]) (rest := []) (lenOf pd26 rfl) rfl (w0 rfl rfl) (B at_190) (fun _ _ => ⟨rfl, eq20, (by decide : 2 + 0 ≤ _), (by decide : 4 + 0 ≤ _)⟩)
  dsimp only [Pt.U, Pt.locs, Pt.cells, Pt.slots] at X22 l22 y22 z22 st22 hQ22
  rw [l22, y22, z22] at X22
  obtain ⟨rfl, Nq22, eq22⟩ := hQ22
  have N23 := Fr.app N21 Nq22
  obtain ⟨_, _, ⟨T24, L24, k24, n24⟩, -, X24, ⟨Lc24, hQ24, l24, y24, z24⟩, st24⟩ := Jvm.LawKit.callS X22 hx (y := my34) hown (mvT hZ (ow1 hw)) (mvT hZ (ow2 hw)) (mvT hZ (ow3 hw)) (mvT hZ (ow4 hw)) (by decide) (backOf (W := 0) (rmpo l Z a0 hw [] b3 (60 : Int32) x4 k3 _ (1 : Int32) T13.heap n0 Ol17 na13 (by decide)) hZ (ow4 hw) (ow3 hw) (by decide) (by decide)) (g := (FL m x0 x1 x2 x3 x4 x5 199 (VI 1) (VR b3) (VR b6) (VI 1) .unset .unset [(.int x4), (.int 60), (.ref b3)])) rfl (by rw [hml]; rfl) (argsL := [(.ref b3), (.int 60), (.int x4)]) (rest := []) (lenOf pd26 rfl) rfl (w0 rfl rfl) (B at_199) (fun _ _ => ⟨rfl, eq22, (by decide : 2 + 0 ≤ _), (by decide : 4 + 0 ≤ _)⟩)
  dsimp only [Pt.U, Pt.locs, Pt.cells, Pt.slots] at X24 l24 y24 z24 st24 hQ24
  rw [l24, y24, z24] at X24
  obtain ⟨rfl, Nq24, eq24⟩ := hQ24
  have N25 := Fr.app N23 Nq24
  obtain ⟨_, _, ⟨T26, L26, k26, n26⟩, -, X26, ⟨Lc26, hQ26, l26, y26, z26⟩, st26⟩ := Jvm.LawKit.callS X24 hx (y := my34) hown (mvT hZ (ow1 hw)) (mvT hZ (ow2 hw)) (mvT hZ (ow3 hw)) (mvT hZ (ow4 hw)) (by decide) (backOf (W := 0) (rmpi l Z a0 hw [] b3 (0 : Int32) ((x5.toUInt32 >>> ((8 : Int32) &&& 31).toUInt32).toInt32) k3 cs13 0 1 T13.heap n0 Ol17 na13 lc13 rfl (by decide) (by decide) gn3) hZ (ow4 hw) (ow3 hw) (by decide) (by decide)) (g := (FL m x0 x1 x2 x3 x4 x5 213 (VI 1) (VR b3) (VR b6) (VI 1) .unset .unset [(.int ((x5.toUInt32 >>> ((8 : Int32) &&& 31).toUInt32).toInt32)), (.int 0), (.ref b3)])) rfl (by rw [hml]; rfl) (argsL := [(.ref b3), (.int 0), (.int ((x5.toUInt32 >>> ((8 : Int32) &&& 31).toUInt32).toInt32))]) (rest := []) (lenOf pd26 rfl) rfl (w0 rfl rfl) (B at_213) (fun _ _ => ⟨rfl, eq24, (by decide : 2 + 0 ≤ _), (by decide : 4 + 0 ≤ _)⟩)
  dsimp only [Pt.U, Pt.locs, Pt.cells, Pt.slots] at X26 l26 y26 z26 st26 hQ26
  rw [l26, y26, z26] at X26
  obtain ⟨rfl, Nq26, kp26, na26⟩ := hQ26
  have N27 := Fr.app N25 Nq26
  have f28 := (Safe.keep kp13 (sfS f15 sf0) CH7.1 f15)
  have CH29 := CH16.trans (CHr.keep kp26 (sfS f28 sf0) CH16.1)
  have hk29 := Nat.le_trans hk16 kp26.1
  have Ol30 := Ol17.keep kp26 (allS gn3 all0)
  obtain ⟨cs26, hcs26⟩ : ∃ z, z = List.set cs13 0 (((x5.toUInt32 >>> ((8 : Int32) &&& 31).toUInt32).toInt32) &&& (255 : Int32)) := ⟨_, rfl⟩
  rw [← hcs26] at na26
  have lc26 : List.length cs26 = 1 := by rw [hcs26, List.length_set]; exact lc13
  have bc26 : Byt cs26 := by rw [hcs26]; exact own_setb bc13 0 (own_a255 _)
  obtain ⟨_, _, ⟨T31, L31, k31, n31⟩, -, X31, ⟨Lc31, hQ31, l31, y31, z31⟩, st31⟩ := Jvm.LawKit.callS X26 hx (y := my7) hown (mvT hZ (ow5 hw)) (mvT hZ (ow6 hw)) (mvT hZ (ow7 hw)) (mvT hZ (ow8 hw)) (by decide) (backOf (W := 0) (rmmin l Z a0 hw [] (1 : Int32) (60 : Int32)  T26.heap n0 Ol30 ) hZ (ow8 hw) (ow7 hw) (by decide) (by decide)) (g := (FL m x0 x1 x2 x3 x4 x5 220 (VI 1) (VR b3) (VR b6) (VI 1) .unset .unset [(.int 60), (.int 1)])) rfl (by rw [hml]; rfl) (argsL := [(.int 1), (.int 60)]) (rest := []) (lenOf pd2 rfl) rfl (w0 rfl rfl) (B at_220) (fun _ _ => ⟨rfl, rfl, (by decide : 2 + 0 ≤ _), (by decide : 4 + 0 ≤ _)⟩)
  dsimp only [Pt.U, Pt.locs, Pt.cells, Pt.slots] at X31 l31 y31 z31 st31 hQ31
  rw [l31, y31, z31] at X31
  obtain ⟨hv31, Nq31, eq31⟩ := hQ31
  obtain rfl := own_lit hv31 (y := (1 : Int32)) (by decide)
  have N32 := Fr.app N27 Nq31
  have f33 := ((Vm11.keep kp13 (ninS (Ne.symm neb3_6) nin0)).keep kp26 (ninS (Ne.symm neb3_6) nin0))
  obtain ⟨cl34, Ar34, q34, S34, M34, H34, G34⟩ := id f33
  have hin34 : ¬ ((0 : Int32) < 0 ∨ cl34.slots.size ≤ ((0 : Int32)).toNatClampNeg) := inb_of S34 ⟨by decide, by decide⟩
  obtain ⟨T35, h35, X35, e35, W35, st35⟩ := stC X31 hx hZ eq31 Ar34 (j := (0 : Int32)) hin34 (g := (FL m x0 x1 x2 x3 x4 x5 230 (VI 1) (VR b3) (VR b6) (VI 1) (VI 1) .unset [(.int 34), (.int 0), (.ref b6)])) rfl rfl (B at_230)
  have V35 : Arv Z h35 b6 k6 .char (3 : Int32) (List.map Value.int (List.set (List.replicate 3 (0 : Int32)) 0 (34 : Int32))) (.int (0 : Int32)) := (by have q := (Arv.set Ar34 q34 S34 M34 H34 G34 (fits_nar_char _) W35 0 rfl (by rw [List.length_map, ((by simp only [List.length_replicate]) : List.length (List.replicate 3 (0 : Int32)) = 3)]; decide)); rw [show nar .char (34 : Int32) = 34 by decide] at q; rw [List.map_set]; exact q)
  have f36 := (Safe.keep kp26 (sfS f28 sf0) CH16.1 (Safe.keep kp13 (sfS f15 sf0) CH7.1 Y6))
  have CH37 := CH29.trans (CHr.wr W35 f36 CH29.1)
  have hk37 := Nat.le_trans hk29 (Keep.of_wr W35).1
  have N38 := Fr.snoc X35 N32 gn6
  have Ol38 := Ol30.wr W35 gn6
  have f39 := (na26.other W35 neb3_6)
  obtain ⟨_, _, ⟨T40, L40, k40, n40⟩, -, X40, ⟨Lc40, hQ40, l40, y40, z40⟩, st40⟩ := Jvm.LawKit.callS X35 hx (y := my35) hown (mvT hZ (ow9 hw)) (mvT hZ (ow10 hw)) (mvT hZ (ow3 hw)) (mvT hZ (ow11 hw)) (by decide) (backOf (W := 0) (rmci l Z a0 hw [] b3 b6 (0 : Int32) (1 : Int32) k3 k6 cs26 (List.set (List.replicate 3 (0 : Int32)) 0 (34 : Int32)) 0 1 3 1 h35 n0 Ol38 f39 V35 (by rw [List.length_set]; exact (by simp only [List.length_replicate])) bc26 rfl rfl (by decide) (by decide) (by decide) (by decide) (by decide) gn6) hZ (ow11 hw) (ow3 hw) (by decide) (by decide)) (g := (FL m x0 x1 x2 x3 x4 x5 238 (VI 1) (VR b3) (VR b6) (VI 1) (VI 1) .unset [(.int 1), (.int 0), (.ref b6), (.ref b3)])) rfl (by rw [hml]; rfl) (argsL := [(.ref b3), (.ref b6), (.int 0), (.int 1)]) (rest := []) (lenOf pd27 rfl) rfl (w0 rfl rfl) (B at_238) (fun _ _ => ⟨rfl, e35, (by decide : 2 + 0 ≤ _), (by decide : 4 + 0 ≤ _)⟩)
  dsimp only [Pt.U, Pt.locs, Pt.cells, Pt.slots] at X40 l40 y40 z40 st40 hQ40
  rw [l40, y40, z40] at X40
  obtain ⟨rfl, Nq40, kp40, na40⟩ := hQ40
  have N41 := Fr.app N38 Nq40
  have f42 := (Safe.wr W35 f36 CH29.1 f36)
  have CH43 := CH37.trans (CHr.keep kp40 (sfS f42 sf0) CH37.1)
  have hk43 := Nat.le_trans hk37 kp40.1
  have Ol44 := Ol38.keep kp40 (allS gn6 all0)
  obtain ⟨cs40, hcs40⟩ : ∃ z, z = List.set (List.set (List.replicate 3 (0 : Int32)) 0 (34 : Int32)) (0 + 1) (List.getD cs26 0 0) := ⟨_, rfl⟩
  rw [← hcs40] at na40
  have lc40 : List.length cs40 = 3 := by rw [hcs40, List.length_set]; exact (by rw [List.length_set]; exact (by simp only [List.length_replicate]))
  have bc40 : Byt cs40 := by rw [hcs40]; exact own_setb (own_setb (own_rep0 3) 0 (by decide)) (0 + 1) (own_gdb bc26 0)
  obtain ⟨_, _, ⟨T45, L45, k45, n45⟩, -, X45, ⟨Lc45, hQ45, l45, y45, z45⟩, st45⟩ := Jvm.LawKit.callS X40 hx (y := my35) hown (mvT hZ (ow9 hw)) (mvT hZ (ow10 hw)) (mvT hZ (ow3 hw)) (mvT hZ (ow11 hw)) (by decide) (backOf (W := 0) (rmco l Z a0 hw [] b3 b6 (1 : Int32) (1 : Int32)  T40.heap n0 Ol44 (by decide)) hZ (ow11 hw) (ow3 hw) (by decide) (by decide)) (g := (FL m x0 x1 x2 x3 x4 x5 248 (VI 1) (VR b3) (VR b6) (VI 1) (VI 1) .unset [(.int 1), (.int 1), (.ref b6), (.ref b3)])) rfl (by rw [hml]; rfl) (argsL := [(.ref b3), (.ref b6), (.int 1), (.int 1)]) (rest := []) (lenOf pd27 rfl) rfl (w0 rfl rfl) (B at_248) (fun _ _ => ⟨rfl, rfl, (by decide : 2 + 0 ≤ _), (by decide : 4 + 0 ≤ _)⟩)
  dsimp only [Pt.U, Pt.locs, Pt.cells, Pt.slots] at X45 l45 y45 z45 st45 hQ45
  rw [l45, y45, z45] at X45
  obtain ⟨rfl, Nq45, eq45⟩ := hQ45
  have N46 := Fr.app N41 Nq45
  obtain ⟨_, _, ⟨T47, L47, k47, n47⟩, -, X47, ⟨Lc47, hQ47, l47, y47, z47⟩, st47⟩ := Jvm.LawKit.callS X45 hx (y := my35) hown (mvT hZ (ow9 hw)) (mvT hZ (ow10 hw)) (mvT hZ (ow3 hw)) (mvT hZ (ow11 hw)) (by decide) (backOf (W := 0) (rmco l Z a0 hw [] b3 b6 (58 : Int32) (1 : Int32)  T40.heap n0 Ol44 (by decide)) hZ (ow11 hw) (ow3 hw) (by decide) (by decide)) (g := (FL m x0 x1 x2 x3 x4 x5 259 (VI 1) (VR b3) (VR b6) (VI 1) (VI 1) .unset [(.int 1), (.int 58), (.ref b6), (.ref b3)])) rfl (by rw [hml]; rfl) (argsL := [(.ref b3), (.ref b6), (.int 58), (.int 1)]) (rest := []) (lenOf pd27 rfl) rfl (w0 rfl rfl) (B at_259) (fun _ _ => ⟨rfl, eq45, (by decide : 2 + 0 ≤ _), (by decide : 4 + 0 ≤ _)⟩)
  dsimp only [Pt.U, Pt.locs, Pt.cells, Pt.slots] at X47 l47 y47 z47 st47 hQ47
  rw [l47, y47, z47] at X47
  obtain ⟨rfl, Nq47, eq47⟩ := hQ47
  have N48 := Fr.app N46 Nq47
  obtain ⟨_, _, ⟨T49, L49, k49, n49⟩, -, X49, ⟨Lc49, hQ49, l49, y49, z49⟩, st49⟩ := Jvm.LawKit.callS X47 hx (y := my35) hown (mvT hZ (ow9 hw)) (mvT hZ (ow10 hw)) (mvT hZ (ow3 hw)) (mvT hZ (ow11 hw)) (by decide) (backOf (W := 0) (rmco l Z a0 hw [] b3 b6 (59 : Int32) (1 : Int32)  T40.heap n0 Ol44 (by decide)) hZ (ow11 hw) (ow3 hw) (by decide) (by decide)) (g := (FL m x0 x1 x2 x3 x4 x5 270 (VI 1) (VR b3) (VR b6) (VI 1) (VI 1) .unset [(.int 1), (.int 59), (.ref b6), (.ref b3)])) rfl (by rw [hml]; rfl) (argsL := [(.ref b3), (.ref b6), (.int 59), (.int 1)]) (rest := []) (lenOf pd27 rfl) rfl (w0 rfl rfl) (B at_270) (fun _ _ => ⟨rfl, eq47, (by decide : 2 + 0 ≤ _), (by decide : 4 + 0 ≤ _)⟩)
  dsimp only [Pt.U, Pt.locs, Pt.cells, Pt.slots] at X49 l49 y49 z49 st49 hQ49
  rw [l49, y49, z49] at X49
  obtain ⟨rfl, Nq49, eq49⟩ := hQ49
  have N50 := Fr.app N48 Nq49
  obtain ⟨_, _, ⟨T51, L51, k51, n51⟩, -, X51, ⟨Lc51, hQ51, l51, y51, z51⟩, st51⟩ := Jvm.LawKit.callS X49 hx (y := my35) hown (mvT hZ (ow9 hw)) (mvT hZ (ow10 hw)) (mvT hZ (ow3 hw)) (mvT hZ (ow11 hw)) (by decide) (backOf (W := 0) (rmco l Z a0 hw [] b3 b6 (60 : Int32) (1 : Int32)  T40.heap n0 Ol44 (by decide)) hZ (ow11 hw) (ow3 hw) (by decide) (by decide)) (g := (FL m x0 x1 x2 x3 x4 x5 281 (VI 1) (VR b3) (VR b6) (VI 1) (VI 1) .unset [(.int 1), (.int 60), (.ref b6), (.ref b3)])) rfl (by rw [hml]; rfl) (argsL := [(.ref b3), (.ref b6), (.int 60), (.int 1)]) (rest := []) (lenOf pd27 rfl) rfl (w0 rfl rfl) (B at_281) (fun _ _ => ⟨rfl, eq49, (by decide : 2 + 0 ≤ _), (by decide : 4 + 0 ≤ _)⟩)
  dsimp only [Pt.U, Pt.locs, Pt.cells, Pt.slots] at X51 l51 y51 z51 st51 hQ51
  rw [l51, y51, z51] at X51
  obtain ⟨rfl, Nq51, eq51⟩ := hQ51
  have N52 := Fr.app N50 Nq51
  have f53 := (f39.keep kp40 (ninS neb3_6 nin0))
  obtain ⟨_, _, ⟨T54, L54, k54, n54⟩, -, X54, ⟨Lc54, hQ54, l54, y54, z54⟩, st54⟩ := Jvm.LawKit.callS X51 hx (y := my35) hown (mvT hZ (ow9 hw)) (mvT hZ (ow10 hw)) (mvT hZ (ow3 hw)) (mvT hZ (ow11 hw)) (by decide) (backOf (W := 0) (rmci l Z a0 hw [] b3 b6 (0 : Int32) (1 : Int32) k3 k6 cs26 cs40 0 1 3 1 T40.heap n0 Ol44 f53 na40 lc40 bc26 rfl rfl (by decide) (by decide) (by decide) (by decide) (by decide) gn6) hZ (ow11 hw) (ow3 hw) (by decide) (by decide)) (g := (FL m x0 x1 x2 x3 x4 x5 294 (VI 1) (VR b3) (VR b6) (VI 1) (VI 1) .unset [(.int 1), (.int 0), (.ref b6), (.ref b3)])) rfl (by rw [hml]; rfl) (argsL := [(.ref b3), (.ref b6), (.int 0), (.int 1)]) (rest := []) (lenOf pd27 rfl) rfl (w0 rfl rfl) (B at_294) (fun _ _ => ⟨rfl, eq51, (by decide : 2 + 0 ≤ _), (by decide : 4 + 0 ≤ _)⟩)
  dsimp only [Pt.U, Pt.locs, Pt.cells, Pt.slots] at X54 l54 y54 z54 st54 hQ54
  rw [l54, y54, z54] at X54
  obtain ⟨rfl, Nq54, kp54, na54⟩ := hQ54
  have N55 := Fr.app N52 Nq54
  have f56 := (Safe.keep kp40 (sfS f42 sf0) CH37.1 f42)
  have CH57 := CH43.trans (CHr.keep kp54 (sfS f56 sf0) CH43.1)
  have hk57 := Nat.le_trans hk43 kp54.1
  have Ol58 := Ol44.keep kp54 (allS gn6 all0)
  obtain ⟨cs54, hcs54⟩ : ∃ z, z = List.set cs40 (0 + 1) (List.getD cs26 0 0) := ⟨_, rfl⟩
  rw [← hcs54] at na54
  have lc54 : List.length cs54 = 3 := by rw [hcs54, List.length_set]; exact lc40
  have bc54 : Byt cs54 := by rw [hcs54]; exact own_setb bc40 (0 + 1) (own_gdb bc26 0)
  obtain ⟨cl59, Ar59, q59, S59, M59, H59, G59⟩ := id na54
  have hin59 : ¬ ((2 : Int32) < 0 ∨ cl59.slots.size ≤ ((2 : Int32)).toNatClampNeg) := inb_of S59 ⟨by decide, by decide⟩
  obtain ⟨T60, h60, X60, e60, W60, st60⟩ := stC X54 hx hZ rfl Ar59 (j := (2 : Int32)) hin59 (g := (FL m x0 x1 x2 x3 x4 x5 343 (VI 1) (VR b3) (VR b6) (VI 1) (VI 1) .unset [(.int 34), (.int 2), (.ref b6)])) rfl rfl (B at_343)
  have V60 : Arv Z h60 b6 k6 .char (3 : Int32) (List.map Value.int (List.set cs54 2 (34 : Int32))) (.int (0 : Int32)) := (by have q := (Arv.set Ar59 q59 S59 M59 H59 G59 (fits_nar_char _) W60 2 rfl (by rw [List.length_map, (lc54 : List.length cs54 = 3)]; decide)); rw [show nar .char (34 : Int32) = 34 by decide] at q; rw [List.map_set]; exact q)
  have f61 := (Safe.keep kp54 (sfS f56 sf0) CH43.1 f56)
  have CH62 := CH57.trans (CHr.wr W60 f61 CH57.1)
  have hk62 := Nat.le_trans hk57 (Keep.of_wr W60).1
  have N63 := Fr.snoc X60 N55 gn6
  have Ol63 := Ol58.wr W60 gn6
  have f64 := ((f53.keep kp54 (ninS neb3_6 nin0)).other W60 neb3_6)
  obtain ⟨T65, h65, X65, e65, E65, A65, D65, U65, st65⟩ := newO X60 hx hZ hown (ow12 hw) (ow13 hw) (ow14 hw) e60 (g := (FL m x0 x1 x2 x3 x4 x5 344 (VI 1) (VR b3) (VR b6) (VI 1) (VI 1) .unset [])) rfl (B at_344) (by decide) (by decide)
  obtain ⟨b65, g65⟩ : ∃ z, z = h60.size := ⟨_, rfl⟩
  rw [← g65] at A65 D65 U65 st65
  have gn65 : n0 ≤ b65 := Nat.le_trans (own_sz Ol63) (Nat.le_of_eq g65.symm)
  have neb3_65 : b3 ≠ b65 := Nat.ne_of_lt (Nat.lt_of_lt_of_le f64.lt (Nat.le_of_eq g65.symm))
  have neb6_65 : b6 ≠ b65 := Nat.ne_of_lt (Nat.lt_of_lt_of_le V60.lt (Nat.le_of_eq g65.symm))
  have Y65 := Safe.ext E65 CH62.1 (Safe.new (x := b65) (Nat.le_of_eq g65.symm))
  have CH66 := CH62.trans (CHr.ext E65 CH62.1)
  have hk66 := Nat.le_trans hk62 E65.1
  have Ol67 := Ol63.ext E65
  have Fcoder_65 : Fld Z h65 b65 "java/lang/String" "coder" "B" (.int (0 : Int32)) := D65 (Or.inr (ow38 hw)) (ty := .byte) (by decide)
  have Fvalue_65 : Fld Z h65 b65 "java/lang/String" "value" "[B" .null := D65 (Or.inr (ow40 hw)) (ty := (.array .byte)) (by decide)
  have f68 := (f64.ext E65)
  obtain ⟨_, _, ⟨T69, L69, k69, n69⟩, -, X69, ⟨Lc69, hQ69, l69, y69, z69⟩, st69⟩ := X65.specialBack hx (y := my1) rfl hown (mvT hZ (ow15 hw)) (mvT hZ (ow16 hw)) (mvT hZ (ow17 hw)) (by decide) (StrChars.Road.backV (W := 1) hZ (own_ws hw) (kI := 4) (ow13 hw) (cs := cs26) (bs := List.map (fun c => c.toInt8.toInt32) cs26) (n := 1) gn65 (own_sz Ol67) A65 Fvalue_65 Fcoder_65 f68 (O2.ext Ol67.2) P5 lc26 rfl (by decide) (by decide) bc26 rfl (by decide) (by decide)) (g := (FL m x0 x1 x2 x3 x4 x5 350 (VI 1) (VR b3) (VR b6) (VI 1) (VI 1) .unset [(.ref b3), (.ref b65), (.ref b65)])) rfl (by rw [hml]; rfl) (Steps.refl _) (a := b65) (argsL := [(.ref b3)]) (rest := [(.ref b65)]) (lenOf pd28 rfl) rfl (w0 rfl rfl) (B at_350) (fun _ _ => ⟨rfl, e65, (by decide : 3 + 1 ≤ _), (by decide : 8 + 1 ≤ _)⟩)
  dsimp only [Pt.U, Pt.locs, Pt.cells, Pt.slots] at X69 l69 y69 z69 st69 hQ69
  rw [l69, y69, z69] at X69
  obtain ⟨rfl, Nq69, kp69, sE69, sC69, t69, k69_, -, -, -, sV69, sA69⟩ := hQ69
  have ln69 : List.length cs26 = 1 := lc26
  have Sp69 : StrP Z _ b65 cs26 := ⟨sE69, sC69, bc26, (by rw [ln69]; decide), t69, k69_, sV69, (by rw [ln69]; exact sA69)⟩
  have N70 := Fr.app N63 Nq69
  have CH71 := CH66.trans (CHr.keep kp69 (sfS Y65 sf0) CH66.1)
  have hk71 := Nat.le_trans hk66 kp69.1
  have Ol72 := Ol67.keep kp69 (allS gn65 all0)
  obtain ⟨sEI, sCI, spI, slI, tI, skI, sVI, sAI⟩ := id Sp69
  obtain ⟨_, _, ⟨T73, L73, k73, n73⟩, -, Xr73, hSr73, hgr73, ⟨Lc73, hQ73, l73, y73, z73, CR73⟩, st73⟩ := callSS X69 hx (y := my33) hown (mvT hZ (ow41 hw)) (mvT hZ (ow42 hw)) (mvT hZ (ow43 hw)) (mvT hZ (ow44 hw)) (by decide) (backOfSH (W := 0) (rmqa l Z a0 hw [] b65 cs26 G1 fm T69.heap n0 Ol72 O2 P5 O4 rf ⟨sEI, sCI, spI, slI, tI, skI, sVI, sAI⟩ (by rw [lc26]; decide)) hZ (ow44 hw) (ow43 hw) (by decide) (by decide) (own_EW hw) CH71.1) (g := (FL m x0 x1 x2 x3 x4 x5 353 (VI 1) (VR b3) (VR b6) (VI 1) (VI 1) .unset [(.ref b65)])) rfl (by rw [hml]; rfl) (argsL := [(.ref b65)]) (rest := []) (lenOf pd29 rfl) rfl (w0 rfl rfl) (B at_353) (fun _ _ => ⟨rfl, rfl, (by decide : 4 + 8 ≤ _), (by decide : 9 + 105 ≤ _)⟩)
  dsimp only [Pt.U, Pt.locs, Pt.cells, Pt.slots] at Xr73 hSr73 hgr73 l73 y73 z73 CR73 st73 hQ73
  rw [l73, y73, z73] at Xr73
  obtain ⟨X73, hS73, hZ73, hown73⟩ := rebS hS0 hk71 Xr73 hSr73 hgr73 hZ hown
  have hk73 : T73.heap.size ≤ T73.heap.size := Nat.le_refl _
  obtain ⟨qb73, rfl, Nq73, kp73, Sq73⟩ := hQ73
  have N74 := Fr.app N70 Nq73
  have f75 := (f68.keep kp69 (ninS neb3_65 nin0))
  have f76 := ((V60.ext E65).keep kp69 (ninS neb6_65 nin0))
  have CH77 := CH71.trans CR73
  have Ol78 := Ol72.keep kp73 all0
  obtain ⟨sEQ, sCQ, spQ, slQ, tQ, skQ, sVQ, sAQ⟩ := id Sq73
  have f79 := (f75.keep kp73 nin0)
  have f80 := (f76.keep kp73 nin0)
  have f81 := (sEI.keep kp73)
  have f82 := (sAI.keep kp73 nin0)
  obtain ⟨T83, h83, X83, e83, E83, A83, D83, U83, st83⟩ := newO X73 hx hZ73 hown73 (ow12 hw) (ow13 hw) (ow14 hw) rfl (g := (FL m x0 x1 x2 x3 x4 x5 360 (VI 1) (VR b3) (VR b6) (VI 1) (VI 1) (VR qb73) [(.ref qb73)])) rfl (B at_360) (by decide) (by decide)
  obtain ⟨b83, g83⟩ : ∃ z, z = T73.heap.size := ⟨_, rfl⟩
  rw [← g83] at A83 D83 U83 st83
  have gn83 : n0 ≤ b83 := Nat.le_trans (own_sz Ol78) (Nat.le_of_eq g83.symm)
  have neb3_83 : b3 ≠ b83 := Nat.ne_of_lt (Nat.lt_of_lt_of_le f79.lt (Nat.le_of_eq g83.symm))
  have neb6_83 : b6 ≠ b83 := Nat.ne_of_lt (Nat.lt_of_lt_of_le f80.lt (Nat.le_of_eq g83.symm))
  have neb65_83 : b65 ≠ b83 := Nat.ne_of_lt (Nat.lt_of_lt_of_le f81.lt (Nat.le_of_eq g83.symm))
  have netI_83 : tI ≠ b83 := Nat.ne_of_lt (Nat.lt_of_lt_of_le f82.lt (Nat.le_of_eq g83.symm))
  have neqb73_83 : qb73 ≠ b83 := Nat.ne_of_lt (Nat.lt_of_lt_of_le sEQ.lt (Nat.le_of_eq g83.symm))
  have netQ_83 : tQ ≠ b83 := Nat.ne_of_lt (Nat.lt_of_lt_of_le sAQ.lt (Nat.le_of_eq g83.symm))
  have Y83 := Safe.ext E83 CH77.1 (Safe.new (x := b83) (Nat.le_of_eq g83.symm))
  have CH84 := CH77.trans (CHr.ext E83 CH77.1)
  have hk84 := Nat.le_trans hk73 E83.1
  have Ol85 := Ol78.ext E83
  have Fcoder_83 : Fld Z h83 b83 "java/lang/String" "coder" "B" (.int (0 : Int32)) := D83 (Or.inr (ow38 hw)) (ty := .byte) (by decide)
  have Fvalue_83 : Fld Z h83 b83 "java/lang/String" "value" "[B" .null := D83 (Or.inr (ow40 hw)) (ty := (.array .byte)) (by decide)
  have f86 := (f80.ext E83)
  obtain ⟨_, _, ⟨T87, L87, k87, n87⟩, -, X87, ⟨Lc87, hQ87, l87, y87, z87⟩, st87⟩ := X83.specialBack hx (y := my1) rfl hown73 (mvT hZ73 (ow15 hw)) (mvT hZ73 (ow16 hw)) (mvT hZ73 (ow17 hw)) (by decide) (StrChars.Road.backV (W := 2) hZ73 (own_ws hw) (kI := 4) (ow13 hw) (cs := (List.set cs54 2 (34 : Int32))) (bs := List.map (fun c => c.toInt8.toInt32) (List.set cs54 2 (34 : Int32))) (n := 3) gn83 (own_sz Ol85) A83 Fvalue_83 Fcoder_83 f86 (O2.ext Ol85.2) P5 (by rw [List.length_set]; exact lc54) rfl (by decide) (by decide) (own_setb bc54 2 (by decide)) rfl (by decide) (by decide)) (g := (FL m x0 x1 x2 x3 x4 x5 366 (VI 1) (VR b3) (VR b6) (VI 1) (VI 1) (VR qb73) [(.ref b6), (.ref b83), (.ref b83), (.ref qb73)])) rfl (by rw [hml]; rfl) (Steps.refl _) (a := b83) (argsL := [(.ref b6)]) (rest := [(.ref b83), (.ref qb73)]) (lenOf pd28 rfl) rfl (w0 rfl rfl) (B at_366) (fun _ _ => ⟨rfl, e83, (by decide : 13 + 1 ≤ _), (by decide : 118 + 3 ≤ _)⟩)
  dsimp only [Pt.U, Pt.locs, Pt.cells, Pt.slots] at X87 l87 y87 z87 st87 hQ87
  rw [l87, y87, z87] at X87
  obtain ⟨rfl, Nq87, kp87, sE87, sC87, t87, k87_, -, -, -, sV87, sA87⟩ := hQ87
  have ln87 : List.length (List.set cs54 2 (34 : Int32)) = 3 := (by rw [List.length_set]; exact lc54)
  have Sp87 : StrP Z _ b83 (List.set cs54 2 (34 : Int32)) := ⟨sE87, sC87, (own_setb bc54 2 (by decide)), (by rw [ln87]; decide), t87, k87_, sV87, (by rw [ln87]; exact sA87)⟩
  have N88 := Fr.app N74 Nq87
  have CH89 := CH84.trans (CHr.keep kp87 (sfS Y83 sf0) CH84.1)
  have hk89 := Nat.le_trans hk84 kp87.1
  have Ol90 := Ol85.keep kp87 (allS gn83 all0)
  obtain ⟨sEO, sCO, spO, slO, tO, skO, sVO, sAO⟩ := id Sp87
  have f91 := ((sEQ.ext E83).keep kp87)
  have f92 := ((sVQ.ext E83).keep kp87 (ninS neqb73_83 nin0))
  have f93 := ((sCQ.ext E83).keep kp87 (ninS neqb73_83 nin0))
  have f94 := ((sAQ.ext E83).keep kp87 (ninS netQ_83 nin0))
  obtain ⟨cq95, kq95, q95a, q95b, q95c⟩ := isOf hZ73 rfl f91
  obtain ⟨_, _, ⟨T95, L95, k95, n95⟩, -, X95, ⟨Lc95, hQ95, l95, y95, z95⟩, st95⟩ := X87.virtualBack hx (y := my36) (z := my36) hown73 (mvT hZ73 (ow156 hw)) (mvT hZ73 (ow157 hw)) (notFace_of_selects (args := #[]) (mvT hZ73 (ow159 hw))) (mvT hZ73 (ow159 hw)) (mvT hZ73 (ow158 hw)) (by decide) (StrChars.Road.eqW (W := 0) hZ73 (own_weq hw) (kI := 4) (ow13 hw) f91 f92 f93 f94 (StrChars.Road.codOf rfl (fun c hc => (spQ c hc).2)) (own_up _ spQ) slQ sEO sVO sCO sAO (StrChars.Road.codOf rfl (fun c hc => (spO c hc).2)) (own_up _ spO) slO (O2.ext Ol90.2) P5 (by decide) (by decide)) q95a q95c (g := (FL m x0 x1 x2 x3 x4 x5 369 (VI 1) (VR b3) (VR b6) (VI 1) (VI 1) (VR qb73) [(.ref b83), (.ref qb73)])) rfl (by rw [hml]; rfl) (Steps.refl _) (argsL := [(.ref b83)]) (rest := []) (lenOf pd30 rfl) rfl (w0 rfl rfl) (B at_369) (fun _ _ => ⟨rfl, rfl, (by decide : 14 + 0 ≤ _), (by decide : 121 + 0 ≤ _)⟩)
  dsimp only [Pt.U, Pt.locs, Pt.cells, Pt.slots] at X95 l95 y95 z95 st95 hQ95
  rw [l95, y95, z95] at X95
  obtain ⟨hor95, hL95, eq95⟩ := hQ95
  obtain rfl := own_eqv hor95
  have Nq95 := own_frn hL95 n0
  have N96 := Fr.app N88 Nq95
  have hAB : (qs cs26) = (List.set cs54 2 (34 : Int32)) := by rw [hcs54, hcs40, hcs26, hcs13]; rfl
  have pre97 : ∀ tgt, Steps p.tables e below (T95.setTop (FL m x0 x1 x2 x3 x4 x5 372 (VI 1) (VR b3) (VR b6) (VI 1) (VI 1) (VR qb73) [(.int (if (qs cs26) = (List.set cs54 2 (34 : Int32)) then (1 : Int32) else (0 : Int32)))])) tgt → Steps p.tables e below (s₁.setTop (entryFrame m #[(.int x0), (.int x1), (.int x2), (.int x3), (.int x4), (.int x5)] maxLocals)) tgt := by
    intro tgt kgo
    refine pre2 _ ?_
    refine XS.iload X0.here hx rfl (B at_7) rfl ?_
    refine XS.ifYes X0.here hx rfl (pc0 := 9) (pc' := 25) rfl (B at_9) rfl ((if0 _ _).trans (feq (by decide : ¬ ((1 : Int32) = (0 : Int32)))).2) (by decide) (by decide) ?_
    show GO p e below s₁ (FL m x0 x1 x2 x3 x4 x5 25 (VI 1) .unset .unset .unset .unset .unset []) _
    refine XS.iload X0.here hx rfl (B at_25) rfl ?_
    refine XS.iconst X0.here hx rfl (B at_27) ?_
    refine XS.icmpNo X0.here hx rfl (B at_28) rfl (teq (by decide : (1 : Int32) = (1 : Int32))).2 ?_
    show GO p e below s₁ (FL m x0 x1 x2 x3 x4 x5 31 (VI 1) .unset .unset .unset .unset .unset []) _
    refine XS.iconst X0.here hx rfl (B at_31) ?_
    refine st3 _ ?_
    show GO p e below T3 (FL m x0 x1 x2 x3 x4 x5 34 (VI 1) .unset .unset .unset .unset .unset [(.ref b3)]) _
    refine XS.astore X3.here hx rfl (B at_34) rfl rfl (l' := #[.val (.int x0), .val (.int x1), .val (.int x2), .val (.int x3), .val (.int x4), .val (.int x5), .val (.int (1 : Int32)), .val (.ref b3), .unset, .unset, .unset, .unset]) rfl ?_
    refine XS.iconst X3.here hx rfl (B at_36) ?_
    refine st6 _ ?_
    show GO p e below T6 (FL m x0 x1 x2 x3 x4 x5 39 (VI 1) (VR b3) .unset .unset .unset .unset [(.ref b6)]) _
    refine XS.astore X6.here hx rfl (B at_39) rfl rfl (l' := #[.val (.int x0), .val (.int x1), .val (.int x2), .val (.int x3), .val (.int x4), .val (.int x5), .val (.int (1 : Int32)), .val (.ref b3), .val (.ref b6), .unset, .unset, .unset]) rfl ?_
    refine XS.goto X6.here hx rfl (pc0 := 41) (pc' := 158) rfl (B at_41) (by decide) (by decide) ?_
    refine XS.aload X6.here hx rfl (B at_158) rfl rfl ?_
    refine X6.arraylength hx (by rw [e6]; exact Ar12.1) (State.isArrayOf_alike hZ.alike Ar12.2.1) (g := (mkF m 160 #[.val (.int x0), .val (.int x1), .val (.int x2), .val (.int x3), .val (.int x4), .val (.int x5), .val (.int (1 : Int32)), .val (.ref b3), .val (.ref b6), .unset, .unset, .unset] [(.ref b3)])) rfl rfl (B at_160) _ ?_
    rw [len_of S12 M12]
    show GO p e below T6 (FL m x0 x1 x2 x3 x4 x5 161 (VI 1) (VR b3) (VR b6) .unset .unset .unset [(.int 1)]) _
    refine XS.istore X6.here hx rfl (B at_161) rfl (l' := #[.val (.int x0), .val (.int x1), .val (.int x2), .val (.int x3), .val (.int x4), .val (.int x5), .val (.int (1 : Int32)), .val (.ref b3), .val (.ref b6), .val (.int (1 : Int32)), .unset, .unset]) rfl ?_
    refine XS.aload X6.here hx rfl (B at_163) rfl rfl ?_
    refine XS.iconst X6.here hx rfl (B at_165) ?_
    refine XS.iloadN X6.here hx rfl (B at_166) rfl ?_
    refine st13 _ ?_
    show GO p e below T13 (FL m x0 x1 x2 x3 x4 x5 170 (VI 1) (VR b3) (VR b6) (VI 1) .unset .unset []) _
    refine XS.aload X13.here hx rfl (B at_170) rfl rfl ?_
    refine XS.iconst X13.here hx rfl (B at_172) ?_
    refine XS.iloadN X13.here hx rfl (B at_173) rfl ?_
    refine st18 _ ?_
    show GO p e below T18 (FL m x0 x1 x2 x3 x4 x5 177 (VI 1) (VR b3) (VR b6) (VI 1) .unset .unset []) _
    refine XS.aload X18.here hx rfl (B at_177) rfl rfl ?_
    refine XS.bipush X18.here hx rfl (B at_179) ?_
    refine XS.iloadN X18.here hx rfl (B at_181) rfl ?_
    refine st20 _ ?_
    show GO p e below T20 (FL m x0 x1 x2 x3 x4 x5 185 (VI 1) (VR b3) (VR b6) (VI 1) .unset .unset []) _
    refine XS.aload X20.here hx rfl (B at_185) rfl rfl ?_
    refine XS.bipush X20.here hx rfl (B at_187) ?_
    refine XS.iloadN X20.here hx rfl (B at_189) rfl ?_
    refine st22 _ ?_
    show GO p e below T22 (FL m x0 x1 x2 x3 x4 x5 193 (VI 1) (VR b3) (VR b6) (VI 1) .unset .unset []) _
    refine XS.aload X22.here hx rfl (B at_193) rfl rfl ?_
    refine XS.bipush X22.here hx rfl (B at_195) ?_
    refine XS.iload X22.here hx rfl (B at_197) rfl ?_
    refine st24 _ ?_
    show GO p e below T24 (FL m x0 x1 x2 x3 x4 x5 202 (VI 1) (VR b3) (VR b6) (VI 1) .unset .unset []) _
    refine XS.aload X24.here hx rfl (B at_202) rfl rfl ?_
    refine XS.iload X24.here hx rfl (B at_204) rfl ?_
    refine XS.iconst X24.here hx rfl (B at_206) ?_
    refine XS.isub X24.here hx rfl (B at_207) rfl ?_
    refine XS.iload X24.here hx rfl (B at_208) rfl ?_
    refine XS.bipush X24.here hx rfl (B at_210) ?_
    refine XS.iushr X24.here hx rfl (B at_212) rfl ?_
    refine st26 _ ?_
    show GO p e below T26 (FL m x0 x1 x2 x3 x4 x5 216 (VI 1) (VR b3) (VR b6) (VI 1) .unset .unset []) _
    refine XS.iload X26.here hx rfl (B at_216) rfl ?_
    refine XS.bipush X26.here hx rfl (B at_218) ?_
    refine st31 _ ?_
    show GO p e below T31 (FL m x0 x1 x2 x3 x4 x5 223 (VI 1) (VR b3) (VR b6) (VI 1) .unset .unset [(.int 1)]) _
    refine XS.istore X31.here hx rfl (B at_223) rfl (l' := #[.val (.int x0), .val (.int x1), .val (.int x2), .val (.int x3), .val (.int x4), .val (.int x5), .val (.int (1 : Int32)), .val (.ref b3), .val (.ref b6), .val (.int (1 : Int32)), .val (.int (1 : Int32)), .unset]) rfl ?_
    refine XS.aload X31.here hx rfl (B at_225) rfl rfl ?_
    refine XS.iconst X31.here hx rfl (B at_227) ?_
    refine XS.bipush X31.here hx rfl (B at_228) ?_
    refine st35 _ ?_
    show GO p e below T35 (FL m x0 x1 x2 x3 x4 x5 231 (VI 1) (VR b3) (VR b6) (VI 1) (VI 1) .unset []) _
    refine XS.aload X35.here hx rfl (B at_231) rfl rfl ?_
    refine XS.aload X35.here hx rfl (B at_233) rfl rfl ?_
    refine XS.iconst X35.here hx rfl (B at_235) ?_
    refine XS.iload X35.here hx rfl (B at_236) rfl ?_
    refine st40 _ ?_
    show GO p e below T40 (FL m x0 x1 x2 x3 x4 x5 241 (VI 1) (VR b3) (VR b6) (VI 1) (VI 1) .unset []) _
    refine XS.aload X40.here hx rfl (B at_241) rfl rfl ?_
    refine XS.aload X40.here hx rfl (B at_243) rfl rfl ?_
    refine XS.iconst X40.here hx rfl (B at_245) ?_
    refine XS.iload X40.here hx rfl (B at_246) rfl ?_
    refine st45 _ ?_
    show GO p e below T45 (FL m x0 x1 x2 x3 x4 x5 251 (VI 1) (VR b3) (VR b6) (VI 1) (VI 1) .unset []) _
    refine XS.aload X45.here hx rfl (B at_251) rfl rfl ?_
    refine XS.aload X45.here hx rfl (B at_253) rfl rfl ?_
    refine XS.bipush X45.here hx rfl (B at_255) ?_
    refine XS.iload X45.here hx rfl (B at_257) rfl ?_
    refine st47 _ ?_
    show GO p e below T47 (FL m x0 x1 x2 x3 x4 x5 262 (VI 1) (VR b3) (VR b6) (VI 1) (VI 1) .unset []) _
    refine XS.aload X47.here hx rfl (B at_262) rfl rfl ?_
    refine XS.aload X47.here hx rfl (B at_264) rfl rfl ?_
    refine XS.bipush X47.here hx rfl (B at_266) ?_
    refine XS.iload X47.here hx rfl (B at_268) rfl ?_
    refine st49 _ ?_
    show GO p e below T49 (FL m x0 x1 x2 x3 x4 x5 273 (VI 1) (VR b3) (VR b6) (VI 1) (VI 1) .unset []) _
    refine XS.aload X49.here hx rfl (B at_273) rfl rfl ?_
    refine XS.aload X49.here hx rfl (B at_275) rfl rfl ?_
    refine XS.bipush X49.here hx rfl (B at_277) ?_
    refine XS.iload X49.here hx rfl (B at_279) rfl ?_
    refine st51 _ ?_
    show GO p e below T51 (FL m x0 x1 x2 x3 x4 x5 284 (VI 1) (VR b3) (VR b6) (VI 1) (VI 1) .unset []) _
    refine XS.aload X51.here hx rfl (B at_284) rfl rfl ?_
    refine XS.aload X51.here hx rfl (B at_286) rfl rfl ?_
    refine XS.iload X51.here hx rfl (B at_288) rfl ?_
    refine XS.iconst X51.here hx rfl (B at_290) ?_
    refine XS.isub X51.here hx rfl (B at_291) rfl ?_
    refine XS.iload X51.here hx rfl (B at_292) rfl ?_
    refine st54 _ ?_
    show GO p e below T54 (FL m x0 x1 x2 x3 x4 x5 297 (VI 1) (VR b3) (VR b6) (VI 1) (VI 1) .unset []) _
    refine XS.iload X54.here hx rfl (B at_297) rfl ?_
    refine XS.bipush X54.here hx rfl (B at_299) ?_
    refine XS.icmpYes X54.here hx rfl (pc0 := 301) (pc' := 335) rfl (B at_301) rfl (flt (by decide : ¬ ((60 : Int32) < (1 : Int32)))).2.2.2 (by decide) (by decide) ?_
    show GO p e below T54 (FL m x0 x1 x2 x3 x4 x5 335 (VI 1) (VR b3) (VR b6) (VI 1) (VI 1) .unset []) _
    refine XS.aload X54.here hx rfl (B at_335) rfl rfl ?_
    refine XS.iload X54.here hx rfl (B at_337) rfl ?_
    refine XS.iconst X54.here hx rfl (B at_339) ?_
    refine XS.iadd X54.here hx rfl (B at_340) rfl ?_
    refine XS.bipush X54.here hx rfl (B at_341) ?_
    refine st60 _ ?_
    show GO p e below T60 (FL m x0 x1 x2 x3 x4 x5 344 (VI 1) (VR b3) (VR b6) (VI 1) (VI 1) .unset []) _
    refine st65 _ ?_
    show GO p e below T65 (FL m x0 x1 x2 x3 x4 x5 347 (VI 1) (VR b3) (VR b6) (VI 1) (VI 1) .unset [(.ref b65)]) _
    refine XS.dup X65.here hx rfl (B at_347) rfl rfl ?_
    refine XS.aload X65.here hx rfl (B at_348) rfl rfl ?_
    refine st69.trans ?_
    show GO p e below T69 (FL m x0 x1 x2 x3 x4 x5 353 (VI 1) (VR b3) (VR b6) (VI 1) (VI 1) .unset [(.ref b65)]) _
    refine st73.trans ?_
    show GO p e below T73 (FL m x0 x1 x2 x3 x4 x5 356 (VI 1) (VR b3) (VR b6) (VI 1) (VI 1) .unset [(.ref qb73)]) _
    refine XS.astore X73.here hx rfl (B at_356) rfl rfl (l' := #[.val (.int x0), .val (.int x1), .val (.int x2), .val (.int x3), .val (.int x4), .val (.int x5), .val (.int (1 : Int32)), .val (.ref b3), .val (.ref b6), .val (.int (1 : Int32)), .val (.int (1 : Int32)), .val (.ref qb73)]) rfl ?_
    refine XS.aload X73.here hx rfl (B at_358) rfl rfl ?_
    refine st83 _ ?_
    show GO p e below T83 (FL m x0 x1 x2 x3 x4 x5 363 (VI 1) (VR b3) (VR b6) (VI 1) (VI 1) (VR qb73) [(.ref b83), (.ref qb73)]) _
    refine XS.dup X83.here hx rfl (B at_363) rfl rfl ?_
    refine XS.aload X83.here hx rfl (B at_364) rfl rfl ?_
    refine st87.trans ?_
    show GO p e below T87 (FL m x0 x1 x2 x3 x4 x5 369 (VI 1) (VR b3) (VR b6) (VI 1) (VI 1) (VR qb73) [(.ref b83), (.ref qb73)]) _
    refine st95.trans ?_
    show GO p e below T95 (FL m x0 x1 x2 x3 x4 x5 372 (VI 1) (VR b3) (VR b6) (VI 1) (VI 1) (VR qb73) [(.int (if (qs cs26) = (List.set cs54 2 (34 : Int32)) then (1 : Int32) else (0 : Int32)))]) _
    exact kgo
  have pre98 : ∀ tgt, Steps p.tables e below (T95.setTop (FL m x0 x1 x2 x3 x4 x5 372 (VI 1) (VR b3) (VR b6) (VI 1) (VI 1) (VR qb73) [(.int 1)])) tgt → Steps p.tables e below (s₁.setTop (entryFrame m #[(.int x0), (.int x1), (.int x2), (.int x3), (.int x4), (.int x5)] maxLocals)) tgt := by
    have q := pre97
    rw [if_pos hAB] at q
    exact q
  obtain ⟨fs, hretL, hrun, hended, hEnd⟩ := Stand.leaveW X95 hS73 (by rw [eq95]; exact hk89) (v := some (.int (1 : Int32))) (fun h => by rw [Bd.returns] at h; cases h)
  have hCf : CHr Z EL0 s.vm s.heap T95.vm T95.heap := by rw [hh, eq95]; exact CH89.trans (CHv.at X95 hZ73 (own_EW hw) CH89.1)
  refine ⟨_, _, pre98 _ ?_, hrun, hended, _, _, rfl, ?_, hCf, hEnd.1, hEnd.2.1, hEnd.2.2.1, hEnd.2.2.2.mono (by decide) (by decide)⟩
  · exact retOut X95 hx Bd.returns rfl (Or.inl ⟨rfl, Or.inr (Or.inl rfl), _, rfl⟩) (B at_372) hretL
  · show Q_rm0k1 Z x0 x1 x2 x3 x4 x5 G1 fm h0 n0 _ T95.heap _
    rw [eq95]
    exact ⟨rfl, N96⟩
def Q_rm0k2 (Z : State) (x0 : Int32) (x1 : Int32) (x2 : Int32) (x3 : Int32) (x4 : Int32) (x5 : Int32) (G1 : Int32) (fm : Value) (h0 : Heap) (n0 : Nat) (v : Option Value) (h : Heap) (L : List Loc) : Prop := v = some (.int (1 : Int32)) ∧ Fr n0 L
set_option maxRecDepth 65536 in
set_option maxHeartbeats 40000000 in
theorem rm0k2 (l : Launch) (Z : State) (a0 : Array Value) (hw : HW a0 Z) (ws : List Jvm.Cond) (x0 : Int32) (x1 : Int32) (x2 : Int32) (x3 : Int32) (x4 : Int32) (x5 : Int32) (G1 : Int32) (fm : Value) (h0 : Heap) (n0 : Nat) (O0 : Old Z n0 h0) (hkc : (x5 &&& (7 : Int32)) = (2 : Int32)) (O2 : Sta Z Z.heap "java/lang/String" "COMPACT_STRINGS" "Z" (.int G1)) (P5 : ¬ (G1 = (0 : Int32))) (O4 : Sta Z Z.heap "jdk/internal/util/Preconditions" "SIOOBE_FORMATTER" "Ljava/util/function/BiFunction;" fm) (rf : fm.isRef = true) :
    MetFree l x (head1 (Jvm.Cond.code x code maxLocals ret :: ws) room_1) (fun aa U => aa = #[(.int x0), (.int x1), (.int x2), (.int x3), (.int x4), (.int x5)] ∧ Z.Warmed39 U.vm ∧ U.heap = h0 ∧ CHv Z EL0 U.vm h0) (fun _ _ _ _ _ => True) (fun _ U o U' => ∃ v L, o = .returned v ∧ Q_rm0k2 Z x0 x1 x2 x3 x4 x5 G1 fm h0 n0 v U'.heap L ∧ CHr Z EL0 U.vm U.heap U'.vm U'.heap ∧ ReturnedEndW U o U' L 26 1745) := by
  refine MetFree.of_bodySF (plainFor_of_name pn8) hisR ?_
  intro p e s m args below meth c s₁ Bd hml0 hP hK
  obtain ⟨rfl, hZ, hh, hCH⟩ := hP
  have hx := Bd.exec
  have hby := Bd.bytes
  have B := fun {pc : Nat} {r} (h : decode code pc = r) => hb hby h
  have hml : c.maxLocals = 12 := hml0
  have hown : s.vm.findClass "com/example/atropos/atropos/io/CurveTextQuotePinLaw" = some m.cls := findClass_of_methodNamed Bd.named
  have hnm := (name_of_methodNamed Bd.named Bd.method).1
  have X0 : Stand p l e room_1 (s.setVm s.vm) m #[(.int x0), (.int x1), (.int x2), (.int x3), (.int x4), (.int x5)] below meth c s₁ [] 0 0 := Stand.of_body Bd
  have e0 : s₁.heap = h0 := by rw [← hh, Bd.state]; rfl
  have N0 := Fr.nil n0
  have pre0 : ∀ tgt, Steps p.tables e below (s₁.setTop (mkF m 0 #[.val (.int x0), .val (.int x1), .val (.int x2), .val (.int x3), .val (.int x4), .val (.int x5), .unset, .unset, .unset, .unset, .unset, .unset] [])) tgt → Steps p.tables e below (s₁.setTop (entryFrame m #[(.int x0), (.int x1), (.int x2), (.int x3), (.int x4), (.int x5)] maxLocals)) tgt := fun tgt kgo => castTop (ef_rm0k0 m x0 x1 x2 x3 x4 x5) kgo
  have hS0 : s.Since s.vm 0 := (State.WarmedH.refl s).since 0
  have hk0 : 0 ≤ h0.size := Nat.zero_le _
  have CH0 : CHr Z EL0 s.vm h0 s.vm h0 := CHr.refl hCH
  have pre1 : ∀ tgt, Steps p.tables e below (s₁.setTop (FL m x0 x1 x2 x3 x4 x5 7 (VI (x5 &&& (7 : Int32))) .unset .unset .unset .unset .unset [])) tgt → Steps p.tables e below (s₁.setTop (entryFrame m #[(.int x0), (.int x1), (.int x2), (.int x3), (.int x4), (.int x5)] maxLocals)) tgt := by
    intro tgt kgo
    refine pre0 _ ?_
    refine XS.iload X0.here hx rfl (B at_0) rfl ?_
    refine XS.bipush X0.here hx rfl (B at_2) ?_
    refine XS.iand X0.here hx rfl (B at_4) rfl ?_
    refine XS.istore X0.here hx rfl (B at_5) rfl (l' := #[.val (.int x0), .val (.int x1), .val (.int x2), .val (.int x3), .val (.int x4), .val (.int x5), .val (.int (x5 &&& (7 : Int32))), .unset, .unset, .unset, .unset, .unset]) rfl ?_
    exact kgo
  have pre2 : ∀ tgt, Steps p.tables e below (s₁.setTop (FL m x0 x1 x2 x3 x4 x5 7 (VI 2) .unset .unset .unset .unset .unset [])) tgt → Steps p.tables e below (s₁.setTop (entryFrame m #[(.int x0), (.int x1), (.int x2), (.int x3), (.int x4), (.int x5)] maxLocals)) tgt := by
    have q := pre1
    rw [hkc] at q
    exact q
  obtain ⟨T3, h3, k3, X3, e3, E3, A3, st3⟩ := newP (aty := .char) X0 hx hZ (ow0 hw) e0 (g := (FL m x0 x1 x2 x3 x4 x5 51 (VI 2) .unset .unset .unset .unset .unset [(.int 2)])) rfl (B at_51) rfl (by decide) (cap := 2) (by decide) (by decide) (by decide) (by decide)
  obtain ⟨b3, g3⟩ : ∃ z, z = h0.size := ⟨_, rfl⟩
  rw [← g3] at A3 st3
  have V3 : Arv Z h3 b3 k3 .char (2 : Int32) (List.replicate 2 (.int (0 : Int32))) (.int (0 : Int32)) := (Arv.new A3 (by decide)).pad (pad_rep [] (.int (0 : Int32)) 2)
  have gn3 : n0 ≤ b3 := Nat.le_trans (own_sz O0) (Nat.le_of_eq g3.symm)
  have Y3 := Safe.ext E3 CH0.1 (Safe.new (x := b3) (Nat.le_of_eq g3.symm))
  have CH4 := CH0.trans (CHr.ext E3 CH0.1)
  have hk4 := Nat.le_trans hk0 E3.1
  have Ol5 := O0.ext E3
  obtain ⟨T6, h6, k6, X6, e6, E6, A6, st6⟩ := newP (aty := .char) X3 hx hZ (ow0 hw) e3 (g := (FL m x0 x1 x2 x3 x4 x5 56 (VI 2) (VR b3) .unset .unset .unset .unset [(.int 4)])) rfl (B at_56) rfl (by decide) (cap := 4) (by decide) (by decide) (by decide) (by decide)
  obtain ⟨b6, g6⟩ : ∃ z, z = h3.size := ⟨_, rfl⟩
  rw [← g6] at A6 st6
  have V6 : Arv Z h6 b6 k6 .char (4 : Int32) (List.replicate 4 (.int (0 : Int32))) (.int (0 : Int32)) := (Arv.new A6 (by decide)).pad (pad_rep [] (.int (0 : Int32)) 4)
  have gn6 : n0 ≤ b6 := Nat.le_trans (own_sz Ol5) (Nat.le_of_eq g6.symm)
  have neb3_6 : b3 ≠ b6 := Nat.ne_of_lt (Nat.lt_of_lt_of_le V3.lt (Nat.le_of_eq g6.symm))
  have Y6 := Safe.ext E6 CH4.1 (Safe.new (x := b6) (Nat.le_of_eq g6.symm))
  have CH7 := CH4.trans (CHr.ext E6 CH4.1)
  have hk7 := Nat.le_trans hk4 E6.1
  have Ol8 := Ol5.ext E6
  have f10 := (V3.ext E6)
  have Vm9 : Arv Z h6 b3 k3 .char (2 : Int32) (List.map Value.int (List.replicate 2 (0 : Int32))) (.int (0 : Int32)) := by have q := f10; rw [List.map_replicate]; exact q
  have Vm11 : Arv Z h6 b6 k6 .char (4 : Int32) (List.map Value.int (List.replicate 4 (0 : Int32))) (.int (0 : Int32)) := by have q := V6; rw [List.map_replicate]; exact q
  obtain ⟨cl12, Ar12, q12, S12, M12, H12, G12⟩ := id Vm9
  obtain ⟨_, _, ⟨T13, L13, k13, n13⟩, -, X13, ⟨Lc13, hQ13, l13, y13, z13⟩, st13⟩ := Jvm.LawKit.callS X6 hx (y := my34) hown (mvT hZ (ow1 hw)) (mvT hZ (ow2 hw)) (mvT hZ (ow3 hw)) (mvT hZ (ow4 hw)) (by decide) (backOf (W := 0) (rmpi l Z a0 hw [] b3 (0 : Int32) x0 k3 (List.replicate 2 (0 : Int32)) 0 2 h6 n0 Ol8 Vm9 (by simp only [List.length_replicate]) rfl (by decide) (by decide) gn3) hZ (ow4 hw) (ow3 hw) (by decide) (by decide)) (g := (FL m x0 x1 x2 x3 x4 x5 167 (VI 2) (VR b3) (VR b6) (VI 2) .unset .unset [(.int x0), (.int 0), (.ref b3)])) rfl (by rw [hml]; rfl) (argsL := [(.ref b3), (.int 0), (.int x0)]) (rest := []) (lenOf pd26 rfl) rfl (w0 rfl rfl) (B at_167) (fun _ _ => ⟨rfl, e6, (by decide : 2 + 0 ≤ _), (by decide : 6 + 0 ≤ _)⟩)
  dsimp only [Pt.U, Pt.locs, Pt.cells, Pt.slots] at X13 l13 y13 z13 st13 hQ13
  rw [l13, y13, z13] at X13
  obtain ⟨rfl, Nq13, kp13, na13⟩ := hQ13
  have N14 := Fr.app N0 Nq13
  have f15 := (Safe.ext E6 CH4.1 Y3)
  have CH16 := CH7.trans (CHr.keep kp13 (sfS f15 sf0) CH7.1)
  have hk16 := Nat.le_trans hk7 kp13.1
  have Ol17 := Ol8.keep kp13 (allS gn3 all0)
  obtain ⟨cs13, hcs13⟩ : ∃ z, z = List.set (List.replicate 2 (0 : Int32)) 0 (x0 &&& (255 : Int32)) := ⟨_, rfl⟩
  rw [← hcs13] at na13
  have lc13 : List.length cs13 = 2 := by rw [hcs13, List.length_set]; exact (by simp only [List.length_replicate])
  have bc13 : Byt cs13 := by rw [hcs13]; exact own_setb (own_rep0 2) 0 (own_a255 _)
  obtain ⟨_, _, ⟨T18, L18, k18, n18⟩, -, X18, ⟨Lc18, hQ18, l18, y18, z18⟩, st18⟩ := Jvm.LawKit.callS X13 hx (y := my34) hown (mvT hZ (ow1 hw)) (mvT hZ (ow2 hw)) (mvT hZ (ow3 hw)) (mvT hZ (ow4 hw)) (by decide) (backOf (W := 0) (rmpi l Z a0 hw [] b3 (1 : Int32) x1 k3 cs13 1 2 T13.heap n0 Ol17 na13 lc13 rfl (by decide) (by decide) gn3) hZ (ow4 hw) (ow3 hw) (by decide) (by decide)) (g := (FL m x0 x1 x2 x3 x4 x5 174 (VI 2) (VR b3) (VR b6) (VI 2) .unset .unset [(.int x1), (.int 1), (.ref b3)])) rfl (by rw [hml]; rfl) (argsL := [(.ref b3), (.int 1), (.int x1)]) (rest := []) (lenOf pd26 rfl) rfl (w0 rfl rfl) (B at_174) (fun _ _ => ⟨rfl, rfl, (by decide : 2 + 0 ≤ _), (by decide : 6 + 0 ≤ _)⟩)
  dsimp only [Pt.U, Pt.locs, Pt.cells, Pt.slots] at X18 l18 y18 z18 st18 hQ18
  rw [l18, y18, z18] at X18
  obtain ⟨rfl, Nq18, kp18, na18⟩ := hQ18
  have N19 := Fr.app N14 Nq18
  have f20 := (Safe.keep kp13 (sfS f15 sf0) CH7.1 f15)
  have CH21 := CH16.trans (CHr.keep kp18 (sfS f20 sf0) CH16.1)
  have hk21 := Nat.le_trans hk16 kp18.1
  have Ol22 := Ol17.keep kp18 (allS gn3 all0)
  obtain ⟨cs18, hcs18⟩ : ∃ z, z = List.set cs13 1 (x1 &&& (255 : Int32)) := ⟨_, rfl⟩
  rw [← hcs18] at na18
  have lc18 : List.length cs18 = 2 := by rw [hcs18, List.length_set]; exact lc13
  have bc18 : Byt cs18 := by rw [hcs18]; exact own_setb bc13 1 (own_a255 _)
  obtain ⟨_, _, ⟨T23, L23, k23, n23⟩, -, X23, ⟨Lc23, hQ23, l23, y23, z23⟩, st23⟩ := Jvm.LawKit.callS X18 hx (y := my34) hown (mvT hZ (ow1 hw)) (mvT hZ (ow2 hw)) (mvT hZ (ow3 hw)) (mvT hZ (ow4 hw)) (by decide) (backOf (W := 0) (rmpo l Z a0 hw [] b3 (58 : Int32) x2 k3 _ (2 : Int32) T18.heap n0 Ol22 na18 (by decide)) hZ (ow4 hw) (ow3 hw) (by decide) (by decide)) (g := (FL m x0 x1 x2 x3 x4 x5 182 (VI 2) (VR b3) (VR b6) (VI 2) .unset .unset [(.int x2), (.int 58), (.ref b3)])) rfl (by rw [hml]; rfl) (argsL := [(.ref b3), (.int 58), (.int x2)]) (rest := []) (lenOf pd26 rfl) rfl (w0 rfl rfl) (B at_182) (fun _ _ => ⟨rfl, rfl, (by decide : 2 + 0 ≤ _), (by decide : 6 + 0 ≤ _)⟩)
  dsimp only [Pt.U, Pt.locs, Pt.cells, Pt.slots] at X23 l23 y23 z23 st23 hQ23
  rw [l23, y23, z23] at X23
  obtain ⟨rfl, Nq23, eq23⟩ := hQ23
  have N24 := Fr.app N19 Nq23
  obtain ⟨_, _, ⟨T25, L25, k25, n25⟩, -, X25, ⟨Lc25, hQ25, l25, y25, z25⟩, st25⟩ := Jvm.LawKit.callS X23 hx (y := my34) hown (mvT hZ (ow1 hw)) (mvT hZ (ow2 hw)) (mvT hZ (ow3 hw)) (mvT hZ (ow4 hw)) (by decide) (backOf (W := 0) (rmpo l Z a0 hw [] b3 (59 : Int32) x3 k3 _ (2 : Int32) T18.heap n0 Ol22 na18 (by decide)) hZ (ow4 hw) (ow3 hw) (by decide) (by decide)) (g := (FL m x0 x1 x2 x3 x4 x5 190 (VI 2) (VR b3) (VR b6) (VI 2) .unset .unset [(.int x3), (.int 59), (.ref b3)])) rfl (by rw [hml]; rfl) (argsL := [(.ref b3), (.int 59), (.int x3)]) (rest := []) (lenOf pd26 rfl) rfl (w0 rfl rfl) (B at_190) (fun _ _ => ⟨rfl, eq23, (by decide : 2 + 0 ≤ _), (by decide : 6 + 0 ≤ _)⟩)
  dsimp only [Pt.U, Pt.locs, Pt.cells, Pt.slots] at X25 l25 y25 z25 st25 hQ25
  rw [l25, y25, z25] at X25
  obtain ⟨rfl, Nq25, eq25⟩ := hQ25
  have N26 := Fr.app N24 Nq25
  obtain ⟨_, _, ⟨T27, L27, k27, n27⟩, -, X27, ⟨Lc27, hQ27, l27, y27, z27⟩, st27⟩ := Jvm.LawKit.callS X25 hx (y := my34) hown (mvT hZ (ow1 hw)) (mvT hZ (ow2 hw)) (mvT hZ (ow3 hw)) (mvT hZ (ow4 hw)) (by decide) (backOf (W := 0) (rmpo l Z a0 hw [] b3 (60 : Int32) x4 k3 _ (2 : Int32) T18.heap n0 Ol22 na18 (by decide)) hZ (ow4 hw) (ow3 hw) (by decide) (by decide)) (g := (FL m x0 x1 x2 x3 x4 x5 199 (VI 2) (VR b3) (VR b6) (VI 2) .unset .unset [(.int x4), (.int 60), (.ref b3)])) rfl (by rw [hml]; rfl) (argsL := [(.ref b3), (.int 60), (.int x4)]) (rest := []) (lenOf pd26 rfl) rfl (w0 rfl rfl) (B at_199) (fun _ _ => ⟨rfl, eq25, (by decide : 2 + 0 ≤ _), (by decide : 6 + 0 ≤ _)⟩)
  dsimp only [Pt.U, Pt.locs, Pt.cells, Pt.slots] at X27 l27 y27 z27 st27 hQ27
  rw [l27, y27, z27] at X27
  obtain ⟨rfl, Nq27, eq27⟩ := hQ27
  have N28 := Fr.app N26 Nq27
  obtain ⟨_, _, ⟨T29, L29, k29, n29⟩, -, X29, ⟨Lc29, hQ29, l29, y29, z29⟩, st29⟩ := Jvm.LawKit.callS X27 hx (y := my34) hown (mvT hZ (ow1 hw)) (mvT hZ (ow2 hw)) (mvT hZ (ow3 hw)) (mvT hZ (ow4 hw)) (by decide) (backOf (W := 0) (rmpi l Z a0 hw [] b3 (1 : Int32) ((x5.toUInt32 >>> ((8 : Int32) &&& 31).toUInt32).toInt32) k3 cs18 1 2 T18.heap n0 Ol22 na18 lc18 rfl (by decide) (by decide) gn3) hZ (ow4 hw) (ow3 hw) (by decide) (by decide)) (g := (FL m x0 x1 x2 x3 x4 x5 213 (VI 2) (VR b3) (VR b6) (VI 2) .unset .unset [(.int ((x5.toUInt32 >>> ((8 : Int32) &&& 31).toUInt32).toInt32)), (.int 1), (.ref b3)])) rfl (by rw [hml]; rfl) (argsL := [(.ref b3), (.int 1), (.int ((x5.toUInt32 >>> ((8 : Int32) &&& 31).toUInt32).toInt32))]) (rest := []) (lenOf pd26 rfl) rfl (w0 rfl rfl) (B at_213) (fun _ _ => ⟨rfl, eq27, (by decide : 2 + 0 ≤ _), (by decide : 6 + 0 ≤ _)⟩)
  dsimp only [Pt.U, Pt.locs, Pt.cells, Pt.slots] at X29 l29 y29 z29 st29 hQ29
  rw [l29, y29, z29] at X29
  obtain ⟨rfl, Nq29, kp29, na29⟩ := hQ29
  have N30 := Fr.app N28 Nq29
  have f31 := (Safe.keep kp18 (sfS f20 sf0) CH16.1 f20)
  have CH32 := CH21.trans (CHr.keep kp29 (sfS f31 sf0) CH21.1)
  have hk32 := Nat.le_trans hk21 kp29.1
  have Ol33 := Ol22.keep kp29 (allS gn3 all0)
  obtain ⟨cs29, hcs29⟩ : ∃ z, z = List.set cs18 1 (((x5.toUInt32 >>> ((8 : Int32) &&& 31).toUInt32).toInt32) &&& (255 : Int32)) := ⟨_, rfl⟩
  rw [← hcs29] at na29
  have lc29 : List.length cs29 = 2 := by rw [hcs29, List.length_set]; exact lc18
  have bc29 : Byt cs29 := by rw [hcs29]; exact own_setb bc18 1 (own_a255 _)
  obtain ⟨_, _, ⟨T34, L34, k34, n34⟩, -, X34, ⟨Lc34, hQ34, l34, y34, z34⟩, st34⟩ := Jvm.LawKit.callS X29 hx (y := my7) hown (mvT hZ (ow5 hw)) (mvT hZ (ow6 hw)) (mvT hZ (ow7 hw)) (mvT hZ (ow8 hw)) (by decide) (backOf (W := 0) (rmmin l Z a0 hw [] (2 : Int32) (60 : Int32)  T29.heap n0 Ol33 ) hZ (ow8 hw) (ow7 hw) (by decide) (by decide)) (g := (FL m x0 x1 x2 x3 x4 x5 220 (VI 2) (VR b3) (VR b6) (VI 2) .unset .unset [(.int 60), (.int 2)])) rfl (by rw [hml]; rfl) (argsL := [(.int 2), (.int 60)]) (rest := []) (lenOf pd2 rfl) rfl (w0 rfl rfl) (B at_220) (fun _ _ => ⟨rfl, rfl, (by decide : 2 + 0 ≤ _), (by decide : 6 + 0 ≤ _)⟩)
  dsimp only [Pt.U, Pt.locs, Pt.cells, Pt.slots] at X34 l34 y34 z34 st34 hQ34
  rw [l34, y34, z34] at X34
  obtain ⟨hv34, Nq34, eq34⟩ := hQ34
  obtain rfl := own_lit hv34 (y := (2 : Int32)) (by decide)
  have N35 := Fr.app N30 Nq34
  have f36 := (((Vm11.keep kp13 (ninS (Ne.symm neb3_6) nin0)).keep kp18 (ninS (Ne.symm neb3_6) nin0)).keep kp29 (ninS (Ne.symm neb3_6) nin0))
  obtain ⟨cl37, Ar37, q37, S37, M37, H37, G37⟩ := id f36
  have hin37 : ¬ ((0 : Int32) < 0 ∨ cl37.slots.size ≤ ((0 : Int32)).toNatClampNeg) := inb_of S37 ⟨by decide, by decide⟩
  obtain ⟨T38, h38, X38, e38, W38, st38⟩ := stC X34 hx hZ eq34 Ar37 (j := (0 : Int32)) hin37 (g := (FL m x0 x1 x2 x3 x4 x5 230 (VI 2) (VR b3) (VR b6) (VI 2) (VI 2) .unset [(.int 34), (.int 0), (.ref b6)])) rfl rfl (B at_230)
  have V38 : Arv Z h38 b6 k6 .char (4 : Int32) (List.map Value.int (List.set (List.replicate 4 (0 : Int32)) 0 (34 : Int32))) (.int (0 : Int32)) := (by have q := (Arv.set Ar37 q37 S37 M37 H37 G37 (fits_nar_char _) W38 0 rfl (by rw [List.length_map, ((by simp only [List.length_replicate]) : List.length (List.replicate 4 (0 : Int32)) = 4)]; decide)); rw [show nar .char (34 : Int32) = 34 by decide] at q; rw [List.map_set]; exact q)
  have f39 := (Safe.keep kp29 (sfS f31 sf0) CH21.1 (Safe.keep kp18 (sfS f20 sf0) CH16.1 (Safe.keep kp13 (sfS f15 sf0) CH7.1 Y6)))
  have CH40 := CH32.trans (CHr.wr W38 f39 CH32.1)
  have hk40 := Nat.le_trans hk32 (Keep.of_wr W38).1
  have N41 := Fr.snoc X38 N35 gn6
  have Ol41 := Ol33.wr W38 gn6
  have f42 := (na29.other W38 neb3_6)
  obtain ⟨_, _, ⟨T43, L43, k43, n43⟩, -, X43, ⟨Lc43, hQ43, l43, y43, z43⟩, st43⟩ := Jvm.LawKit.callS X38 hx (y := my35) hown (mvT hZ (ow9 hw)) (mvT hZ (ow10 hw)) (mvT hZ (ow3 hw)) (mvT hZ (ow11 hw)) (by decide) (backOf (W := 0) (rmci l Z a0 hw [] b3 b6 (0 : Int32) (2 : Int32) k3 k6 cs29 (List.set (List.replicate 4 (0 : Int32)) 0 (34 : Int32)) 0 2 4 2 h38 n0 Ol41 f42 V38 (by rw [List.length_set]; exact (by simp only [List.length_replicate])) bc29 rfl rfl (by decide) (by decide) (by decide) (by decide) (by decide) gn6) hZ (ow11 hw) (ow3 hw) (by decide) (by decide)) (g := (FL m x0 x1 x2 x3 x4 x5 238 (VI 2) (VR b3) (VR b6) (VI 2) (VI 2) .unset [(.int 2), (.int 0), (.ref b6), (.ref b3)])) rfl (by rw [hml]; rfl) (argsL := [(.ref b3), (.ref b6), (.int 0), (.int 2)]) (rest := []) (lenOf pd27 rfl) rfl (w0 rfl rfl) (B at_238) (fun _ _ => ⟨rfl, e38, (by decide : 2 + 0 ≤ _), (by decide : 6 + 0 ≤ _)⟩)
  dsimp only [Pt.U, Pt.locs, Pt.cells, Pt.slots] at X43 l43 y43 z43 st43 hQ43
  rw [l43, y43, z43] at X43
  obtain ⟨rfl, Nq43, kp43, na43⟩ := hQ43
  have N44 := Fr.app N41 Nq43
  have f45 := (Safe.wr W38 f39 CH32.1 f39)
  have CH46 := CH40.trans (CHr.keep kp43 (sfS f45 sf0) CH40.1)
  have hk46 := Nat.le_trans hk40 kp43.1
  have Ol47 := Ol41.keep kp43 (allS gn6 all0)
  obtain ⟨cs43, hcs43⟩ : ∃ z, z = List.set (List.set (List.replicate 4 (0 : Int32)) 0 (34 : Int32)) (0 + 1) (List.getD cs29 0 0) := ⟨_, rfl⟩
  rw [← hcs43] at na43
  have lc43 : List.length cs43 = 4 := by rw [hcs43, List.length_set]; exact (by rw [List.length_set]; exact (by simp only [List.length_replicate]))
  have bc43 : Byt cs43 := by rw [hcs43]; exact own_setb (own_setb (own_rep0 4) 0 (by decide)) (0 + 1) (own_gdb bc29 0)
  have f48 := (f42.keep kp43 (ninS neb3_6 nin0))
  obtain ⟨_, _, ⟨T49, L49, k49, n49⟩, -, X49, ⟨Lc49, hQ49, l49, y49, z49⟩, st49⟩ := Jvm.LawKit.callS X43 hx (y := my35) hown (mvT hZ (ow9 hw)) (mvT hZ (ow10 hw)) (mvT hZ (ow3 hw)) (mvT hZ (ow11 hw)) (by decide) (backOf (W := 0) (rmci l Z a0 hw [] b3 b6 (1 : Int32) (2 : Int32) k3 k6 cs29 cs43 1 2 4 2 T43.heap n0 Ol47 f48 na43 lc43 bc29 rfl rfl (by decide) (by decide) (by decide) (by decide) (by decide) gn6) hZ (ow11 hw) (ow3 hw) (by decide) (by decide)) (g := (FL m x0 x1 x2 x3 x4 x5 248 (VI 2) (VR b3) (VR b6) (VI 2) (VI 2) .unset [(.int 2), (.int 1), (.ref b6), (.ref b3)])) rfl (by rw [hml]; rfl) (argsL := [(.ref b3), (.ref b6), (.int 1), (.int 2)]) (rest := []) (lenOf pd27 rfl) rfl (w0 rfl rfl) (B at_248) (fun _ _ => ⟨rfl, rfl, (by decide : 2 + 0 ≤ _), (by decide : 6 + 0 ≤ _)⟩)
  dsimp only [Pt.U, Pt.locs, Pt.cells, Pt.slots] at X49 l49 y49 z49 st49 hQ49
  rw [l49, y49, z49] at X49
  obtain ⟨rfl, Nq49, kp49, na49⟩ := hQ49
  have N50 := Fr.app N44 Nq49
  have f51 := (Safe.keep kp43 (sfS f45 sf0) CH40.1 f45)
  have CH52 := CH46.trans (CHr.keep kp49 (sfS f51 sf0) CH46.1)
  have hk52 := Nat.le_trans hk46 kp49.1
  have Ol53 := Ol47.keep kp49 (allS gn6 all0)
  obtain ⟨cs49, hcs49⟩ : ∃ z, z = List.set cs43 (1 + 1) (List.getD cs29 1 0) := ⟨_, rfl⟩
  rw [← hcs49] at na49
  have lc49 : List.length cs49 = 4 := by rw [hcs49, List.length_set]; exact lc43
  have bc49 : Byt cs49 := by rw [hcs49]; exact own_setb bc43 (1 + 1) (own_gdb bc29 1)
  obtain ⟨_, _, ⟨T54, L54, k54, n54⟩, -, X54, ⟨Lc54, hQ54, l54, y54, z54⟩, st54⟩ := Jvm.LawKit.callS X49 hx (y := my35) hown (mvT hZ (ow9 hw)) (mvT hZ (ow10 hw)) (mvT hZ (ow3 hw)) (mvT hZ (ow11 hw)) (by decide) (backOf (W := 0) (rmco l Z a0 hw [] b3 b6 (58 : Int32) (2 : Int32)  T49.heap n0 Ol53 (by decide)) hZ (ow11 hw) (ow3 hw) (by decide) (by decide)) (g := (FL m x0 x1 x2 x3 x4 x5 259 (VI 2) (VR b3) (VR b6) (VI 2) (VI 2) .unset [(.int 2), (.int 58), (.ref b6), (.ref b3)])) rfl (by rw [hml]; rfl) (argsL := [(.ref b3), (.ref b6), (.int 58), (.int 2)]) (rest := []) (lenOf pd27 rfl) rfl (w0 rfl rfl) (B at_259) (fun _ _ => ⟨rfl, rfl, (by decide : 2 + 0 ≤ _), (by decide : 6 + 0 ≤ _)⟩)
  dsimp only [Pt.U, Pt.locs, Pt.cells, Pt.slots] at X54 l54 y54 z54 st54 hQ54
  rw [l54, y54, z54] at X54
  obtain ⟨rfl, Nq54, eq54⟩ := hQ54
  have N55 := Fr.app N50 Nq54
  obtain ⟨_, _, ⟨T56, L56, k56, n56⟩, -, X56, ⟨Lc56, hQ56, l56, y56, z56⟩, st56⟩ := Jvm.LawKit.callS X54 hx (y := my35) hown (mvT hZ (ow9 hw)) (mvT hZ (ow10 hw)) (mvT hZ (ow3 hw)) (mvT hZ (ow11 hw)) (by decide) (backOf (W := 0) (rmco l Z a0 hw [] b3 b6 (59 : Int32) (2 : Int32)  T49.heap n0 Ol53 (by decide)) hZ (ow11 hw) (ow3 hw) (by decide) (by decide)) (g := (FL m x0 x1 x2 x3 x4 x5 270 (VI 2) (VR b3) (VR b6) (VI 2) (VI 2) .unset [(.int 2), (.int 59), (.ref b6), (.ref b3)])) rfl (by rw [hml]; rfl) (argsL := [(.ref b3), (.ref b6), (.int 59), (.int 2)]) (rest := []) (lenOf pd27 rfl) rfl (w0 rfl rfl) (B at_270) (fun _ _ => ⟨rfl, eq54, (by decide : 2 + 0 ≤ _), (by decide : 6 + 0 ≤ _)⟩)
  dsimp only [Pt.U, Pt.locs, Pt.cells, Pt.slots] at X56 l56 y56 z56 st56 hQ56
  rw [l56, y56, z56] at X56
  obtain ⟨rfl, Nq56, eq56⟩ := hQ56
  have N57 := Fr.app N55 Nq56
  obtain ⟨_, _, ⟨T58, L58, k58, n58⟩, -, X58, ⟨Lc58, hQ58, l58, y58, z58⟩, st58⟩ := Jvm.LawKit.callS X56 hx (y := my35) hown (mvT hZ (ow9 hw)) (mvT hZ (ow10 hw)) (mvT hZ (ow3 hw)) (mvT hZ (ow11 hw)) (by decide) (backOf (W := 0) (rmco l Z a0 hw [] b3 b6 (60 : Int32) (2 : Int32)  T49.heap n0 Ol53 (by decide)) hZ (ow11 hw) (ow3 hw) (by decide) (by decide)) (g := (FL m x0 x1 x2 x3 x4 x5 281 (VI 2) (VR b3) (VR b6) (VI 2) (VI 2) .unset [(.int 2), (.int 60), (.ref b6), (.ref b3)])) rfl (by rw [hml]; rfl) (argsL := [(.ref b3), (.ref b6), (.int 60), (.int 2)]) (rest := []) (lenOf pd27 rfl) rfl (w0 rfl rfl) (B at_281) (fun _ _ => ⟨rfl, eq56, (by decide : 2 + 0 ≤ _), (by decide : 6 + 0 ≤ _)⟩)
  dsimp only [Pt.U, Pt.locs, Pt.cells, Pt.slots] at X58 l58 y58 z58 st58 hQ58
  rw [l58, y58, z58] at X58
  obtain ⟨rfl, Nq58, eq58⟩ := hQ58
  have N59 := Fr.app N57 Nq58
  have f60 := (f48.keep kp49 (ninS neb3_6 nin0))
  obtain ⟨_, _, ⟨T61, L61, k61, n61⟩, -, X61, ⟨Lc61, hQ61, l61, y61, z61⟩, st61⟩ := Jvm.LawKit.callS X58 hx (y := my35) hown (mvT hZ (ow9 hw)) (mvT hZ (ow10 hw)) (mvT hZ (ow3 hw)) (mvT hZ (ow11 hw)) (by decide) (backOf (W := 0) (rmci l Z a0 hw [] b3 b6 (1 : Int32) (2 : Int32) k3 k6 cs29 cs49 1 2 4 2 T49.heap n0 Ol53 f60 na49 lc49 bc29 rfl rfl (by decide) (by decide) (by decide) (by decide) (by decide) gn6) hZ (ow11 hw) (ow3 hw) (by decide) (by decide)) (g := (FL m x0 x1 x2 x3 x4 x5 294 (VI 2) (VR b3) (VR b6) (VI 2) (VI 2) .unset [(.int 2), (.int 1), (.ref b6), (.ref b3)])) rfl (by rw [hml]; rfl) (argsL := [(.ref b3), (.ref b6), (.int 1), (.int 2)]) (rest := []) (lenOf pd27 rfl) rfl (w0 rfl rfl) (B at_294) (fun _ _ => ⟨rfl, eq58, (by decide : 2 + 0 ≤ _), (by decide : 6 + 0 ≤ _)⟩)
  dsimp only [Pt.U, Pt.locs, Pt.cells, Pt.slots] at X61 l61 y61 z61 st61 hQ61
  rw [l61, y61, z61] at X61
  obtain ⟨rfl, Nq61, kp61, na61⟩ := hQ61
  have N62 := Fr.app N59 Nq61
  have f63 := (Safe.keep kp49 (sfS f51 sf0) CH46.1 f51)
  have CH64 := CH52.trans (CHr.keep kp61 (sfS f63 sf0) CH52.1)
  have hk64 := Nat.le_trans hk52 kp61.1
  have Ol65 := Ol53.keep kp61 (allS gn6 all0)
  obtain ⟨cs61, hcs61⟩ : ∃ z, z = List.set cs49 (1 + 1) (List.getD cs29 1 0) := ⟨_, rfl⟩
  rw [← hcs61] at na61
  have lc61 : List.length cs61 = 4 := by rw [hcs61, List.length_set]; exact lc49
  have bc61 : Byt cs61 := by rw [hcs61]; exact own_setb bc49 (1 + 1) (own_gdb bc29 1)
  obtain ⟨cl66, Ar66, q66, S66, M66, H66, G66⟩ := id na61
  have hin66 : ¬ ((3 : Int32) < 0 ∨ cl66.slots.size ≤ ((3 : Int32)).toNatClampNeg) := inb_of S66 ⟨by decide, by decide⟩
  obtain ⟨T67, h67, X67, e67, W67, st67⟩ := stC X61 hx hZ rfl Ar66 (j := (3 : Int32)) hin66 (g := (FL m x0 x1 x2 x3 x4 x5 343 (VI 2) (VR b3) (VR b6) (VI 2) (VI 2) .unset [(.int 34), (.int 3), (.ref b6)])) rfl rfl (B at_343)
  have V67 : Arv Z h67 b6 k6 .char (4 : Int32) (List.map Value.int (List.set cs61 3 (34 : Int32))) (.int (0 : Int32)) := (by have q := (Arv.set Ar66 q66 S66 M66 H66 G66 (fits_nar_char _) W67 3 rfl (by rw [List.length_map, (lc61 : List.length cs61 = 4)]; decide)); rw [show nar .char (34 : Int32) = 34 by decide] at q; rw [List.map_set]; exact q)
  have f68 := (Safe.keep kp61 (sfS f63 sf0) CH52.1 f63)
  have CH69 := CH64.trans (CHr.wr W67 f68 CH64.1)
  have hk69 := Nat.le_trans hk64 (Keep.of_wr W67).1
  have N70 := Fr.snoc X67 N62 gn6
  have Ol70 := Ol65.wr W67 gn6
  have f71 := ((f60.keep kp61 (ninS neb3_6 nin0)).other W67 neb3_6)
  obtain ⟨T72, h72, X72, e72, E72, A72, D72, U72, st72⟩ := newO X67 hx hZ hown (ow12 hw) (ow13 hw) (ow14 hw) e67 (g := (FL m x0 x1 x2 x3 x4 x5 344 (VI 2) (VR b3) (VR b6) (VI 2) (VI 2) .unset [])) rfl (B at_344) (by decide) (by decide)
  obtain ⟨b72, g72⟩ : ∃ z, z = h67.size := ⟨_, rfl⟩
  rw [← g72] at A72 D72 U72 st72
  have gn72 : n0 ≤ b72 := Nat.le_trans (own_sz Ol70) (Nat.le_of_eq g72.symm)
  have neb3_72 : b3 ≠ b72 := Nat.ne_of_lt (Nat.lt_of_lt_of_le f71.lt (Nat.le_of_eq g72.symm))
  have neb6_72 : b6 ≠ b72 := Nat.ne_of_lt (Nat.lt_of_lt_of_le V67.lt (Nat.le_of_eq g72.symm))
  have Y72 := Safe.ext E72 CH69.1 (Safe.new (x := b72) (Nat.le_of_eq g72.symm))
  have CH73 := CH69.trans (CHr.ext E72 CH69.1)
  have hk73 := Nat.le_trans hk69 E72.1
  have Ol74 := Ol70.ext E72
  have Fcoder_72 : Fld Z h72 b72 "java/lang/String" "coder" "B" (.int (0 : Int32)) := D72 (Or.inr (ow38 hw)) (ty := .byte) (by decide)
  have Fvalue_72 : Fld Z h72 b72 "java/lang/String" "value" "[B" .null := D72 (Or.inr (ow40 hw)) (ty := (.array .byte)) (by decide)
  have f75 := (f71.ext E72)
  obtain ⟨_, _, ⟨T76, L76, k76, n76⟩, -, X76, ⟨Lc76, hQ76, l76, y76, z76⟩, st76⟩ := X72.specialBack hx (y := my1) rfl hown (mvT hZ (ow15 hw)) (mvT hZ (ow16 hw)) (mvT hZ (ow17 hw)) (by decide) (StrChars.Road.backV (W := 1) hZ (own_ws hw) (kI := 4) (ow13 hw) (cs := cs29) (bs := List.map (fun c => c.toInt8.toInt32) cs29) (n := 2) gn72 (own_sz Ol74) A72 Fvalue_72 Fcoder_72 f75 (O2.ext Ol74.2) P5 lc29 rfl (by decide) (by decide) bc29 rfl (by decide) (by decide)) (g := (FL m x0 x1 x2 x3 x4 x5 350 (VI 2) (VR b3) (VR b6) (VI 2) (VI 2) .unset [(.ref b3), (.ref b72), (.ref b72)])) rfl (by rw [hml]; rfl) (Steps.refl _) (a := b72) (argsL := [(.ref b3)]) (rest := [(.ref b72)]) (lenOf pd28 rfl) rfl (w0 rfl rfl) (B at_350) (fun _ _ => ⟨rfl, e72, (by decide : 3 + 1 ≤ _), (by decide : 10 + 2 ≤ _)⟩)
  dsimp only [Pt.U, Pt.locs, Pt.cells, Pt.slots] at X76 l76 y76 z76 st76 hQ76
  rw [l76, y76, z76] at X76
  obtain ⟨rfl, Nq76, kp76, sE76, sC76, t76, k76_, -, -, -, sV76, sA76⟩ := hQ76
  have ln76 : List.length cs29 = 2 := lc29
  have Sp76 : StrP Z _ b72 cs29 := ⟨sE76, sC76, bc29, (by rw [ln76]; decide), t76, k76_, sV76, (by rw [ln76]; exact sA76)⟩
  have N77 := Fr.app N70 Nq76
  have CH78 := CH73.trans (CHr.keep kp76 (sfS Y72 sf0) CH73.1)
  have hk78 := Nat.le_trans hk73 kp76.1
  have Ol79 := Ol74.keep kp76 (allS gn72 all0)
  obtain ⟨sEI, sCI, spI, slI, tI, skI, sVI, sAI⟩ := id Sp76
  obtain ⟨_, _, ⟨T80, L80, k80, n80⟩, -, Xr80, hSr80, hgr80, ⟨Lc80, hQ80, l80, y80, z80, CR80⟩, st80⟩ := callSS X76 hx (y := my33) hown (mvT hZ (ow41 hw)) (mvT hZ (ow42 hw)) (mvT hZ (ow43 hw)) (mvT hZ (ow44 hw)) (by decide) (backOfSH (W := 0) (rmqa l Z a0 hw [] b72 cs29 G1 fm T76.heap n0 Ol79 O2 P5 O4 rf ⟨sEI, sCI, spI, slI, tI, skI, sVI, sAI⟩ (by rw [lc29]; decide)) hZ (ow44 hw) (ow43 hw) (by decide) (by decide) (own_EW hw) CH78.1) (g := (FL m x0 x1 x2 x3 x4 x5 353 (VI 2) (VR b3) (VR b6) (VI 2) (VI 2) .unset [(.ref b72)])) rfl (by rw [hml]; rfl) (argsL := [(.ref b72)]) (rest := []) (lenOf pd29 rfl) rfl (w0 rfl rfl) (B at_353) (fun _ _ => ⟨rfl, rfl, (by decide : 4 + 8 ≤ _), (by decide : 12 + 105 ≤ _)⟩)
  dsimp only [Pt.U, Pt.locs, Pt.cells, Pt.slots] at Xr80 hSr80 hgr80 l80 y80 z80 CR80 st80 hQ80
  rw [l80, y80, z80] at Xr80
  obtain ⟨X80, hS80, hZ80, hown80⟩ := rebS hS0 hk78 Xr80 hSr80 hgr80 hZ hown
  have hk80 : T80.heap.size ≤ T80.heap.size := Nat.le_refl _
  obtain ⟨qb80, rfl, Nq80, kp80, Sq80⟩ := hQ80
  have N81 := Fr.app N77 Nq80
  have f82 := (f75.keep kp76 (ninS neb3_72 nin0))
  have f83 := ((V67.ext E72).keep kp76 (ninS neb6_72 nin0))
  have CH84 := CH78.trans CR80
  have Ol85 := Ol79.keep kp80 all0
  obtain ⟨sEQ, sCQ, spQ, slQ, tQ, skQ, sVQ, sAQ⟩ := id Sq80
  have f86 := (f82.keep kp80 nin0)
  have f87 := (f83.keep kp80 nin0)
  have f88 := (sEI.keep kp80)
  have f89 := (sAI.keep kp80 nin0)
  obtain ⟨T90, h90, X90, e90, E90, A90, D90, U90, st90⟩ := newO X80 hx hZ80 hown80 (ow12 hw) (ow13 hw) (ow14 hw) rfl (g := (FL m x0 x1 x2 x3 x4 x5 360 (VI 2) (VR b3) (VR b6) (VI 2) (VI 2) (VR qb80) [(.ref qb80)])) rfl (B at_360) (by decide) (by decide)
  obtain ⟨b90, g90⟩ : ∃ z, z = T80.heap.size := ⟨_, rfl⟩
  rw [← g90] at A90 D90 U90 st90
  have gn90 : n0 ≤ b90 := Nat.le_trans (own_sz Ol85) (Nat.le_of_eq g90.symm)
  have neb3_90 : b3 ≠ b90 := Nat.ne_of_lt (Nat.lt_of_lt_of_le f86.lt (Nat.le_of_eq g90.symm))
  have neb6_90 : b6 ≠ b90 := Nat.ne_of_lt (Nat.lt_of_lt_of_le f87.lt (Nat.le_of_eq g90.symm))
  have neb72_90 : b72 ≠ b90 := Nat.ne_of_lt (Nat.lt_of_lt_of_le f88.lt (Nat.le_of_eq g90.symm))
  have netI_90 : tI ≠ b90 := Nat.ne_of_lt (Nat.lt_of_lt_of_le f89.lt (Nat.le_of_eq g90.symm))
  have neqb80_90 : qb80 ≠ b90 := Nat.ne_of_lt (Nat.lt_of_lt_of_le sEQ.lt (Nat.le_of_eq g90.symm))
  have netQ_90 : tQ ≠ b90 := Nat.ne_of_lt (Nat.lt_of_lt_of_le sAQ.lt (Nat.le_of_eq g90.symm))
  have Y90 := Safe.ext E90 CH84.1 (Safe.new (x := b90) (Nat.le_of_eq g90.symm))
  have CH91 := CH84.trans (CHr.ext E90 CH84.1)
  have hk91 := Nat.le_trans hk80 E90.1
  have Ol92 := Ol85.ext E90
  have Fcoder_90 : Fld Z h90 b90 "java/lang/String" "coder" "B" (.int (0 : Int32)) := D90 (Or.inr (ow38 hw)) (ty := .byte) (by decide)
  have Fvalue_90 : Fld Z h90 b90 "java/lang/String" "value" "[B" .null := D90 (Or.inr (ow40 hw)) (ty := (.array .byte)) (by decide)
  have f93 := (f87.ext E90)
  obtain ⟨_, _, ⟨T94, L94, k94, n94⟩, -, X94, ⟨Lc94, hQ94, l94, y94, z94⟩, st94⟩ := X90.specialBack hx (y := my1) rfl hown80 (mvT hZ80 (ow15 hw)) (mvT hZ80 (ow16 hw)) (mvT hZ80 (ow17 hw)) (by decide) (StrChars.Road.backV (W := 2) hZ80 (own_ws hw) (kI := 4) (ow13 hw) (cs := (List.set cs61 3 (34 : Int32))) (bs := List.map (fun c => c.toInt8.toInt32) (List.set cs61 3 (34 : Int32))) (n := 4) gn90 (own_sz Ol92) A90 Fvalue_90 Fcoder_90 f93 (O2.ext Ol92.2) P5 (by rw [List.length_set]; exact lc61) rfl (by decide) (by decide) (own_setb bc61 3 (by decide)) rfl (by decide) (by decide)) (g := (FL m x0 x1 x2 x3 x4 x5 366 (VI 2) (VR b3) (VR b6) (VI 2) (VI 2) (VR qb80) [(.ref b6), (.ref b90), (.ref b90), (.ref qb80)])) rfl (by rw [hml]; rfl) (Steps.refl _) (a := b90) (argsL := [(.ref b6)]) (rest := [(.ref b90), (.ref qb80)]) (lenOf pd28 rfl) rfl (w0 rfl rfl) (B at_366) (fun _ _ => ⟨rfl, e90, (by decide : 13 + 1 ≤ _), (by decide : 121 + 4 ≤ _)⟩)
  dsimp only [Pt.U, Pt.locs, Pt.cells, Pt.slots] at X94 l94 y94 z94 st94 hQ94
  rw [l94, y94, z94] at X94
  obtain ⟨rfl, Nq94, kp94, sE94, sC94, t94, k94_, -, -, -, sV94, sA94⟩ := hQ94
  have ln94 : List.length (List.set cs61 3 (34 : Int32)) = 4 := (by rw [List.length_set]; exact lc61)
  have Sp94 : StrP Z _ b90 (List.set cs61 3 (34 : Int32)) := ⟨sE94, sC94, (own_setb bc61 3 (by decide)), (by rw [ln94]; decide), t94, k94_, sV94, (by rw [ln94]; exact sA94)⟩
  have N95 := Fr.app N81 Nq94
  have CH96 := CH91.trans (CHr.keep kp94 (sfS Y90 sf0) CH91.1)
  have hk96 := Nat.le_trans hk91 kp94.1
  have Ol97 := Ol92.keep kp94 (allS gn90 all0)
  obtain ⟨sEO, sCO, spO, slO, tO, skO, sVO, sAO⟩ := id Sp94
  have f98 := ((sEQ.ext E90).keep kp94)
  have f99 := ((sVQ.ext E90).keep kp94 (ninS neqb80_90 nin0))
  have f100 := ((sCQ.ext E90).keep kp94 (ninS neqb80_90 nin0))
  have f101 := ((sAQ.ext E90).keep kp94 (ninS netQ_90 nin0))
  obtain ⟨cq102, kq102, q102a, q102b, q102c⟩ := isOf hZ80 rfl f98
  obtain ⟨_, _, ⟨T102, L102, k102, n102⟩, -, X102, ⟨Lc102, hQ102, l102, y102, z102⟩, st102⟩ := X94.virtualBack hx (y := my36) (z := my36) hown80 (mvT hZ80 (ow156 hw)) (mvT hZ80 (ow157 hw)) (notFace_of_selects (args := #[]) (mvT hZ80 (ow159 hw))) (mvT hZ80 (ow159 hw)) (mvT hZ80 (ow158 hw)) (by decide) (StrChars.Road.eqW (W := 0) hZ80 (own_weq hw) (kI := 4) (ow13 hw) f98 f99 f100 f101 (StrChars.Road.codOf rfl (fun c hc => (spQ c hc).2)) (own_up _ spQ) slQ sEO sVO sCO sAO (StrChars.Road.codOf rfl (fun c hc => (spO c hc).2)) (own_up _ spO) slO (O2.ext Ol97.2) P5 (by decide) (by decide)) q102a q102c (g := (FL m x0 x1 x2 x3 x4 x5 369 (VI 2) (VR b3) (VR b6) (VI 2) (VI 2) (VR qb80) [(.ref b90), (.ref qb80)])) rfl (by rw [hml]; rfl) (Steps.refl _) (argsL := [(.ref b90)]) (rest := []) (lenOf pd30 rfl) rfl (w0 rfl rfl) (B at_369) (fun _ _ => ⟨rfl, rfl, (by decide : 14 + 0 ≤ _), (by decide : 125 + 0 ≤ _)⟩)
  dsimp only [Pt.U, Pt.locs, Pt.cells, Pt.slots] at X102 l102 y102 z102 st102 hQ102
  rw [l102, y102, z102] at X102
  obtain ⟨hor102, hL102, eq102⟩ := hQ102
  obtain rfl := own_eqv hor102
  have Nq102 := own_frn hL102 n0
  have N103 := Fr.app N95 Nq102
  have hAB : (qs cs29) = (List.set cs61 3 (34 : Int32)) := by rw [hcs61, hcs49, hcs43, hcs29, hcs18, hcs13]; rfl
  have pre104 : ∀ tgt, Steps p.tables e below (T102.setTop (FL m x0 x1 x2 x3 x4 x5 372 (VI 2) (VR b3) (VR b6) (VI 2) (VI 2) (VR qb80) [(.int (if (qs cs29) = (List.set cs61 3 (34 : Int32)) then (1 : Int32) else (0 : Int32)))])) tgt → Steps p.tables e below (s₁.setTop (entryFrame m #[(.int x0), (.int x1), (.int x2), (.int x3), (.int x4), (.int x5)] maxLocals)) tgt := by
    intro tgt kgo
    refine pre2 _ ?_
    refine XS.iload X0.here hx rfl (B at_7) rfl ?_
    refine XS.ifYes X0.here hx rfl (pc0 := 9) (pc' := 25) rfl (B at_9) rfl ((if0 _ _).trans (feq (by decide : ¬ ((2 : Int32) = (0 : Int32)))).2) (by decide) (by decide) ?_
    show GO p e below s₁ (FL m x0 x1 x2 x3 x4 x5 25 (VI 2) .unset .unset .unset .unset .unset []) _
    refine XS.iload X0.here hx rfl (B at_25) rfl ?_
    refine XS.iconst X0.here hx rfl (B at_27) ?_
    refine XS.icmpYes X0.here hx rfl (pc0 := 28) (pc' := 44) rfl (B at_28) rfl (feq (by decide : ¬ ((2 : Int32) = (1 : Int32)))).2 (by decide) (by decide) ?_
    show GO p e below s₁ (FL m x0 x1 x2 x3 x4 x5 44 (VI 2) .unset .unset .unset .unset .unset []) _
    refine XS.iload X0.here hx rfl (B at_44) rfl ?_
    refine XS.iconst X0.here hx rfl (B at_46) ?_
    refine XS.icmpNo X0.here hx rfl (B at_47) rfl (teq (by decide : (2 : Int32) = (2 : Int32))).2 ?_
    show GO p e below s₁ (FL m x0 x1 x2 x3 x4 x5 50 (VI 2) .unset .unset .unset .unset .unset []) _
    refine XS.iconst X0.here hx rfl (B at_50) ?_
    refine st3 _ ?_
    show GO p e below T3 (FL m x0 x1 x2 x3 x4 x5 53 (VI 2) .unset .unset .unset .unset .unset [(.ref b3)]) _
    refine XS.astore X3.here hx rfl (B at_53) rfl rfl (l' := #[.val (.int x0), .val (.int x1), .val (.int x2), .val (.int x3), .val (.int x4), .val (.int x5), .val (.int (2 : Int32)), .val (.ref b3), .unset, .unset, .unset, .unset]) rfl ?_
    refine XS.iconst X3.here hx rfl (B at_55) ?_
    refine st6 _ ?_
    show GO p e below T6 (FL m x0 x1 x2 x3 x4 x5 58 (VI 2) (VR b3) .unset .unset .unset .unset [(.ref b6)]) _
    refine XS.astore X6.here hx rfl (B at_58) rfl rfl (l' := #[.val (.int x0), .val (.int x1), .val (.int x2), .val (.int x3), .val (.int x4), .val (.int x5), .val (.int (2 : Int32)), .val (.ref b3), .val (.ref b6), .unset, .unset, .unset]) rfl ?_
    refine XS.goto X6.here hx rfl (pc0 := 60) (pc' := 158) rfl (B at_60) (by decide) (by decide) ?_
    refine XS.aload X6.here hx rfl (B at_158) rfl rfl ?_
    refine X6.arraylength hx (by rw [e6]; exact Ar12.1) (State.isArrayOf_alike hZ.alike Ar12.2.1) (g := (mkF m 160 #[.val (.int x0), .val (.int x1), .val (.int x2), .val (.int x3), .val (.int x4), .val (.int x5), .val (.int (2 : Int32)), .val (.ref b3), .val (.ref b6), .unset, .unset, .unset] [(.ref b3)])) rfl rfl (B at_160) _ ?_
    rw [len_of S12 M12]
    show GO p e below T6 (FL m x0 x1 x2 x3 x4 x5 161 (VI 2) (VR b3) (VR b6) .unset .unset .unset [(.int 2)]) _
    refine XS.istore X6.here hx rfl (B at_161) rfl (l' := #[.val (.int x0), .val (.int x1), .val (.int x2), .val (.int x3), .val (.int x4), .val (.int x5), .val (.int (2 : Int32)), .val (.ref b3), .val (.ref b6), .val (.int (2 : Int32)), .unset, .unset]) rfl ?_
    refine XS.aload X6.here hx rfl (B at_163) rfl rfl ?_
    refine XS.iconst X6.here hx rfl (B at_165) ?_
    refine XS.iloadN X6.here hx rfl (B at_166) rfl ?_
    refine st13 _ ?_
    show GO p e below T13 (FL m x0 x1 x2 x3 x4 x5 170 (VI 2) (VR b3) (VR b6) (VI 2) .unset .unset []) _
    refine XS.aload X13.here hx rfl (B at_170) rfl rfl ?_
    refine XS.iconst X13.here hx rfl (B at_172) ?_
    refine XS.iloadN X13.here hx rfl (B at_173) rfl ?_
    refine st18 _ ?_
    show GO p e below T18 (FL m x0 x1 x2 x3 x4 x5 177 (VI 2) (VR b3) (VR b6) (VI 2) .unset .unset []) _
    refine XS.aload X18.here hx rfl (B at_177) rfl rfl ?_
    refine XS.bipush X18.here hx rfl (B at_179) ?_
    refine XS.iloadN X18.here hx rfl (B at_181) rfl ?_
    refine st23 _ ?_
    show GO p e below T23 (FL m x0 x1 x2 x3 x4 x5 185 (VI 2) (VR b3) (VR b6) (VI 2) .unset .unset []) _
    refine XS.aload X23.here hx rfl (B at_185) rfl rfl ?_
    refine XS.bipush X23.here hx rfl (B at_187) ?_
    refine XS.iloadN X23.here hx rfl (B at_189) rfl ?_
    refine st25 _ ?_
    show GO p e below T25 (FL m x0 x1 x2 x3 x4 x5 193 (VI 2) (VR b3) (VR b6) (VI 2) .unset .unset []) _
    refine XS.aload X25.here hx rfl (B at_193) rfl rfl ?_
    refine XS.bipush X25.here hx rfl (B at_195) ?_
    refine XS.iload X25.here hx rfl (B at_197) rfl ?_
    refine st27 _ ?_
    show GO p e below T27 (FL m x0 x1 x2 x3 x4 x5 202 (VI 2) (VR b3) (VR b6) (VI 2) .unset .unset []) _
    refine XS.aload X27.here hx rfl (B at_202) rfl rfl ?_
    refine XS.iload X27.here hx rfl (B at_204) rfl ?_
    refine XS.iconst X27.here hx rfl (B at_206) ?_
    refine XS.isub X27.here hx rfl (B at_207) rfl ?_
    refine XS.iload X27.here hx rfl (B at_208) rfl ?_
    refine XS.bipush X27.here hx rfl (B at_210) ?_
    refine XS.iushr X27.here hx rfl (B at_212) rfl ?_
    refine st29 _ ?_
    show GO p e below T29 (FL m x0 x1 x2 x3 x4 x5 216 (VI 2) (VR b3) (VR b6) (VI 2) .unset .unset []) _
    refine XS.iload X29.here hx rfl (B at_216) rfl ?_
    refine XS.bipush X29.here hx rfl (B at_218) ?_
    refine st34 _ ?_
    show GO p e below T34 (FL m x0 x1 x2 x3 x4 x5 223 (VI 2) (VR b3) (VR b6) (VI 2) .unset .unset [(.int 2)]) _
    refine XS.istore X34.here hx rfl (B at_223) rfl (l' := #[.val (.int x0), .val (.int x1), .val (.int x2), .val (.int x3), .val (.int x4), .val (.int x5), .val (.int (2 : Int32)), .val (.ref b3), .val (.ref b6), .val (.int (2 : Int32)), .val (.int (2 : Int32)), .unset]) rfl ?_
    refine XS.aload X34.here hx rfl (B at_225) rfl rfl ?_
    refine XS.iconst X34.here hx rfl (B at_227) ?_
    refine XS.bipush X34.here hx rfl (B at_228) ?_
    refine st38 _ ?_
    show GO p e below T38 (FL m x0 x1 x2 x3 x4 x5 231 (VI 2) (VR b3) (VR b6) (VI 2) (VI 2) .unset []) _
    refine XS.aload X38.here hx rfl (B at_231) rfl rfl ?_
    refine XS.aload X38.here hx rfl (B at_233) rfl rfl ?_
    refine XS.iconst X38.here hx rfl (B at_235) ?_
    refine XS.iload X38.here hx rfl (B at_236) rfl ?_
    refine st43 _ ?_
    show GO p e below T43 (FL m x0 x1 x2 x3 x4 x5 241 (VI 2) (VR b3) (VR b6) (VI 2) (VI 2) .unset []) _
    refine XS.aload X43.here hx rfl (B at_241) rfl rfl ?_
    refine XS.aload X43.here hx rfl (B at_243) rfl rfl ?_
    refine XS.iconst X43.here hx rfl (B at_245) ?_
    refine XS.iload X43.here hx rfl (B at_246) rfl ?_
    refine st49 _ ?_
    show GO p e below T49 (FL m x0 x1 x2 x3 x4 x5 251 (VI 2) (VR b3) (VR b6) (VI 2) (VI 2) .unset []) _
    refine XS.aload X49.here hx rfl (B at_251) rfl rfl ?_
    refine XS.aload X49.here hx rfl (B at_253) rfl rfl ?_
    refine XS.bipush X49.here hx rfl (B at_255) ?_
    refine XS.iload X49.here hx rfl (B at_257) rfl ?_
    refine st54 _ ?_
    show GO p e below T54 (FL m x0 x1 x2 x3 x4 x5 262 (VI 2) (VR b3) (VR b6) (VI 2) (VI 2) .unset []) _
    refine XS.aload X54.here hx rfl (B at_262) rfl rfl ?_
    refine XS.aload X54.here hx rfl (B at_264) rfl rfl ?_
    refine XS.bipush X54.here hx rfl (B at_266) ?_
    refine XS.iload X54.here hx rfl (B at_268) rfl ?_
    refine st56 _ ?_
    show GO p e below T56 (FL m x0 x1 x2 x3 x4 x5 273 (VI 2) (VR b3) (VR b6) (VI 2) (VI 2) .unset []) _
    refine XS.aload X56.here hx rfl (B at_273) rfl rfl ?_
    refine XS.aload X56.here hx rfl (B at_275) rfl rfl ?_
    refine XS.bipush X56.here hx rfl (B at_277) ?_
    refine XS.iload X56.here hx rfl (B at_279) rfl ?_
    refine st58 _ ?_
    show GO p e below T58 (FL m x0 x1 x2 x3 x4 x5 284 (VI 2) (VR b3) (VR b6) (VI 2) (VI 2) .unset []) _
    refine XS.aload X58.here hx rfl (B at_284) rfl rfl ?_
    refine XS.aload X58.here hx rfl (B at_286) rfl rfl ?_
    refine XS.iload X58.here hx rfl (B at_288) rfl ?_
    refine XS.iconst X58.here hx rfl (B at_290) ?_
    refine XS.isub X58.here hx rfl (B at_291) rfl ?_
    refine XS.iload X58.here hx rfl (B at_292) rfl ?_
    refine st61 _ ?_
    show GO p e below T61 (FL m x0 x1 x2 x3 x4 x5 297 (VI 2) (VR b3) (VR b6) (VI 2) (VI 2) .unset []) _
    refine XS.iload X61.here hx rfl (B at_297) rfl ?_
    refine XS.bipush X61.here hx rfl (B at_299) ?_
    refine XS.icmpYes X61.here hx rfl (pc0 := 301) (pc' := 335) rfl (B at_301) rfl (flt (by decide : ¬ ((60 : Int32) < (2 : Int32)))).2.2.2 (by decide) (by decide) ?_
    show GO p e below T61 (FL m x0 x1 x2 x3 x4 x5 335 (VI 2) (VR b3) (VR b6) (VI 2) (VI 2) .unset []) _
    refine XS.aload X61.here hx rfl (B at_335) rfl rfl ?_
    refine XS.iload X61.here hx rfl (B at_337) rfl ?_
    refine XS.iconst X61.here hx rfl (B at_339) ?_
    refine XS.iadd X61.here hx rfl (B at_340) rfl ?_
    refine XS.bipush X61.here hx rfl (B at_341) ?_
    refine st67 _ ?_
    show GO p e below T67 (FL m x0 x1 x2 x3 x4 x5 344 (VI 2) (VR b3) (VR b6) (VI 2) (VI 2) .unset []) _
    refine st72 _ ?_
    show GO p e below T72 (FL m x0 x1 x2 x3 x4 x5 347 (VI 2) (VR b3) (VR b6) (VI 2) (VI 2) .unset [(.ref b72)]) _
    refine XS.dup X72.here hx rfl (B at_347) rfl rfl ?_
    refine XS.aload X72.here hx rfl (B at_348) rfl rfl ?_
    refine st76.trans ?_
    show GO p e below T76 (FL m x0 x1 x2 x3 x4 x5 353 (VI 2) (VR b3) (VR b6) (VI 2) (VI 2) .unset [(.ref b72)]) _
    refine st80.trans ?_
    show GO p e below T80 (FL m x0 x1 x2 x3 x4 x5 356 (VI 2) (VR b3) (VR b6) (VI 2) (VI 2) .unset [(.ref qb80)]) _
    refine XS.astore X80.here hx rfl (B at_356) rfl rfl (l' := #[.val (.int x0), .val (.int x1), .val (.int x2), .val (.int x3), .val (.int x4), .val (.int x5), .val (.int (2 : Int32)), .val (.ref b3), .val (.ref b6), .val (.int (2 : Int32)), .val (.int (2 : Int32)), .val (.ref qb80)]) rfl ?_
    refine XS.aload X80.here hx rfl (B at_358) rfl rfl ?_
    refine st90 _ ?_
    show GO p e below T90 (FL m x0 x1 x2 x3 x4 x5 363 (VI 2) (VR b3) (VR b6) (VI 2) (VI 2) (VR qb80) [(.ref b90), (.ref qb80)]) _
    refine XS.dup X90.here hx rfl (B at_363) rfl rfl ?_
    refine XS.aload X90.here hx rfl (B at_364) rfl rfl ?_
    refine st94.trans ?_
    show GO p e below T94 (FL m x0 x1 x2 x3 x4 x5 369 (VI 2) (VR b3) (VR b6) (VI 2) (VI 2) (VR qb80) [(.ref b90), (.ref qb80)]) _
    refine st102.trans ?_
    show GO p e below T102 (FL m x0 x1 x2 x3 x4 x5 372 (VI 2) (VR b3) (VR b6) (VI 2) (VI 2) (VR qb80) [(.int (if (qs cs29) = (List.set cs61 3 (34 : Int32)) then (1 : Int32) else (0 : Int32)))]) _
    exact kgo
  have pre105 : ∀ tgt, Steps p.tables e below (T102.setTop (FL m x0 x1 x2 x3 x4 x5 372 (VI 2) (VR b3) (VR b6) (VI 2) (VI 2) (VR qb80) [(.int 1)])) tgt → Steps p.tables e below (s₁.setTop (entryFrame m #[(.int x0), (.int x1), (.int x2), (.int x3), (.int x4), (.int x5)] maxLocals)) tgt := by
    have q := pre104
    rw [if_pos hAB] at q
    exact q
  obtain ⟨fs, hretL, hrun, hended, hEnd⟩ := Stand.leaveW X102 hS80 (by rw [eq102]; exact hk96) (v := some (.int (1 : Int32))) (fun h => by rw [Bd.returns] at h; cases h)
  have hCf : CHr Z EL0 s.vm s.heap T102.vm T102.heap := by rw [hh, eq102]; exact CH96.trans (CHv.at X102 hZ80 (own_EW hw) CH96.1)
  refine ⟨_, _, pre105 _ ?_, hrun, hended, _, _, rfl, ?_, hCf, hEnd.1, hEnd.2.1, hEnd.2.2.1, hEnd.2.2.2.mono (by decide) (by decide)⟩
  · exact retOut X102 hx Bd.returns rfl (Or.inl ⟨rfl, Or.inr (Or.inl rfl), _, rfl⟩) (B at_372) hretL
  · show Q_rm0k2 Z x0 x1 x2 x3 x4 x5 G1 fm h0 n0 _ T102.heap _
    rw [eq102]
    exact ⟨rfl, N103⟩
def Q_rm0k3 (Z : State) (x0 : Int32) (x1 : Int32) (x2 : Int32) (x3 : Int32) (x4 : Int32) (x5 : Int32) (G1 : Int32) (fm : Value) (h0 : Heap) (n0 : Nat) (v : Option Value) (h : Heap) (L : List Loc) : Prop := v = some (.int (1 : Int32)) ∧ Fr n0 L
set_option maxRecDepth 65536 in
set_option maxHeartbeats 40000000 in
theorem rm0k3 (l : Launch) (Z : State) (a0 : Array Value) (hw : HW a0 Z) (ws : List Jvm.Cond) (x0 : Int32) (x1 : Int32) (x2 : Int32) (x3 : Int32) (x4 : Int32) (x5 : Int32) (G1 : Int32) (fm : Value) (h0 : Heap) (n0 : Nat) (O0 : Old Z n0 h0) (hkc : (x5 &&& (7 : Int32)) = (3 : Int32)) (O2 : Sta Z Z.heap "java/lang/String" "COMPACT_STRINGS" "Z" (.int G1)) (P5 : ¬ (G1 = (0 : Int32))) (O4 : Sta Z Z.heap "jdk/internal/util/Preconditions" "SIOOBE_FORMATTER" "Ljava/util/function/BiFunction;" fm) (rf : fm.isRef = true) :
    MetFree l x (head1 (Jvm.Cond.code x code maxLocals ret :: ws) room_1) (fun aa U => aa = #[(.int x0), (.int x1), (.int x2), (.int x3), (.int x4), (.int x5)] ∧ Z.Warmed39 U.vm ∧ U.heap = h0 ∧ CHv Z EL0 U.vm h0) (fun _ _ _ _ _ => True) (fun _ U o U' => ∃ v L, o = .returned v ∧ Q_rm0k3 Z x0 x1 x2 x3 x4 x5 G1 fm h0 n0 v U'.heap L ∧ CHr Z EL0 U.vm U.heap U'.vm U'.heap ∧ ReturnedEndW U o U' L 26 1745) := by
  refine MetFree.of_bodySF (plainFor_of_name pn8) hisR ?_
  intro p e s m args below meth c s₁ Bd hml0 hP hK
  obtain ⟨rfl, hZ, hh, hCH⟩ := hP
  have hx := Bd.exec
  have hby := Bd.bytes
  have B := fun {pc : Nat} {r} (h : decode code pc = r) => hb hby h
  have hml : c.maxLocals = 12 := hml0
  have hown : s.vm.findClass "com/example/atropos/atropos/io/CurveTextQuotePinLaw" = some m.cls := findClass_of_methodNamed Bd.named
  have hnm := (name_of_methodNamed Bd.named Bd.method).1
  have X0 : Stand p l e room_1 (s.setVm s.vm) m #[(.int x0), (.int x1), (.int x2), (.int x3), (.int x4), (.int x5)] below meth c s₁ [] 0 0 := Stand.of_body Bd
  have e0 : s₁.heap = h0 := by rw [← hh, Bd.state]; rfl
  have N0 := Fr.nil n0
  have pre0 : ∀ tgt, Steps p.tables e below (s₁.setTop (mkF m 0 #[.val (.int x0), .val (.int x1), .val (.int x2), .val (.int x3), .val (.int x4), .val (.int x5), .unset, .unset, .unset, .unset, .unset, .unset] [])) tgt → Steps p.tables e below (s₁.setTop (entryFrame m #[(.int x0), (.int x1), (.int x2), (.int x3), (.int x4), (.int x5)] maxLocals)) tgt := fun tgt kgo => castTop (ef_rm0k0 m x0 x1 x2 x3 x4 x5) kgo
  have hS0 : s.Since s.vm 0 := (State.WarmedH.refl s).since 0
  have hk0 : 0 ≤ h0.size := Nat.zero_le _
  have CH0 : CHr Z EL0 s.vm h0 s.vm h0 := CHr.refl hCH
  have pre1 : ∀ tgt, Steps p.tables e below (s₁.setTop (FL m x0 x1 x2 x3 x4 x5 7 (VI (x5 &&& (7 : Int32))) .unset .unset .unset .unset .unset [])) tgt → Steps p.tables e below (s₁.setTop (entryFrame m #[(.int x0), (.int x1), (.int x2), (.int x3), (.int x4), (.int x5)] maxLocals)) tgt := by
    intro tgt kgo
    refine pre0 _ ?_
    refine XS.iload X0.here hx rfl (B at_0) rfl ?_
    refine XS.bipush X0.here hx rfl (B at_2) ?_
    refine XS.iand X0.here hx rfl (B at_4) rfl ?_
    refine XS.istore X0.here hx rfl (B at_5) rfl (l' := #[.val (.int x0), .val (.int x1), .val (.int x2), .val (.int x3), .val (.int x4), .val (.int x5), .val (.int (x5 &&& (7 : Int32))), .unset, .unset, .unset, .unset, .unset]) rfl ?_
    exact kgo
  have pre2 : ∀ tgt, Steps p.tables e below (s₁.setTop (FL m x0 x1 x2 x3 x4 x5 7 (VI 3) .unset .unset .unset .unset .unset [])) tgt → Steps p.tables e below (s₁.setTop (entryFrame m #[(.int x0), (.int x1), (.int x2), (.int x3), (.int x4), (.int x5)] maxLocals)) tgt := by
    have q := pre1
    rw [hkc] at q
    exact q
  obtain ⟨T3, h3, k3, X3, e3, E3, A3, st3⟩ := newP (aty := .char) X0 hx hZ (ow0 hw) e0 (g := (FL m x0 x1 x2 x3 x4 x5 70 (VI 3) .unset .unset .unset .unset .unset [(.int 3)])) rfl (B at_70) rfl (by decide) (cap := 3) (by decide) (by decide) (by decide) (by decide)
  obtain ⟨b3, g3⟩ : ∃ z, z = h0.size := ⟨_, rfl⟩
  rw [← g3] at A3 st3
  have V3 : Arv Z h3 b3 k3 .char (3 : Int32) (List.replicate 3 (.int (0 : Int32))) (.int (0 : Int32)) := (Arv.new A3 (by decide)).pad (pad_rep [] (.int (0 : Int32)) 3)
  have gn3 : n0 ≤ b3 := Nat.le_trans (own_sz O0) (Nat.le_of_eq g3.symm)
  have Y3 := Safe.ext E3 CH0.1 (Safe.new (x := b3) (Nat.le_of_eq g3.symm))
  have CH4 := CH0.trans (CHr.ext E3 CH0.1)
  have hk4 := Nat.le_trans hk0 E3.1
  have Ol5 := O0.ext E3
  obtain ⟨T6, h6, k6, X6, e6, E6, A6, st6⟩ := newP (aty := .char) X3 hx hZ (ow0 hw) e3 (g := (FL m x0 x1 x2 x3 x4 x5 75 (VI 3) (VR b3) .unset .unset .unset .unset [(.int 5)])) rfl (B at_75) rfl (by decide) (cap := 5) (by decide) (by decide) (by decide) (by decide)
  obtain ⟨b6, g6⟩ : ∃ z, z = h3.size := ⟨_, rfl⟩
  rw [← g6] at A6 st6
  have V6 : Arv Z h6 b6 k6 .char (5 : Int32) (List.replicate 5 (.int (0 : Int32))) (.int (0 : Int32)) := (Arv.new A6 (by decide)).pad (pad_rep [] (.int (0 : Int32)) 5)
  have gn6 : n0 ≤ b6 := Nat.le_trans (own_sz Ol5) (Nat.le_of_eq g6.symm)
  have neb3_6 : b3 ≠ b6 := Nat.ne_of_lt (Nat.lt_of_lt_of_le V3.lt (Nat.le_of_eq g6.symm))
  have Y6 := Safe.ext E6 CH4.1 (Safe.new (x := b6) (Nat.le_of_eq g6.symm))
  have CH7 := CH4.trans (CHr.ext E6 CH4.1)
  have hk7 := Nat.le_trans hk4 E6.1
  have Ol8 := Ol5.ext E6
  have f10 := (V3.ext E6)
  have Vm9 : Arv Z h6 b3 k3 .char (3 : Int32) (List.map Value.int (List.replicate 3 (0 : Int32))) (.int (0 : Int32)) := by have q := f10; rw [List.map_replicate]; exact q
  have Vm11 : Arv Z h6 b6 k6 .char (5 : Int32) (List.map Value.int (List.replicate 5 (0 : Int32))) (.int (0 : Int32)) := by have q := V6; rw [List.map_replicate]; exact q
  obtain ⟨cl12, Ar12, q12, S12, M12, H12, G12⟩ := id Vm9
  obtain ⟨_, _, ⟨T13, L13, k13, n13⟩, -, X13, ⟨Lc13, hQ13, l13, y13, z13⟩, st13⟩ := Jvm.LawKit.callS X6 hx (y := my34) hown (mvT hZ (ow1 hw)) (mvT hZ (ow2 hw)) (mvT hZ (ow3 hw)) (mvT hZ (ow4 hw)) (by decide) (backOf (W := 0) (rmpi l Z a0 hw [] b3 (0 : Int32) x0 k3 (List.replicate 3 (0 : Int32)) 0 3 h6 n0 Ol8 Vm9 (by simp only [List.length_replicate]) rfl (by decide) (by decide) gn3) hZ (ow4 hw) (ow3 hw) (by decide) (by decide)) (g := (FL m x0 x1 x2 x3 x4 x5 167 (VI 3) (VR b3) (VR b6) (VI 3) .unset .unset [(.int x0), (.int 0), (.ref b3)])) rfl (by rw [hml]; rfl) (argsL := [(.ref b3), (.int 0), (.int x0)]) (rest := []) (lenOf pd26 rfl) rfl (w0 rfl rfl) (B at_167) (fun _ _ => ⟨rfl, e6, (by decide : 2 + 0 ≤ _), (by decide : 8 + 0 ≤ _)⟩)
  dsimp only [Pt.U, Pt.locs, Pt.cells, Pt.slots] at X13 l13 y13 z13 st13 hQ13
  rw [l13, y13, z13] at X13
  obtain ⟨rfl, Nq13, kp13, na13⟩ := hQ13
  have N14 := Fr.app N0 Nq13
  have f15 := (Safe.ext E6 CH4.1 Y3)
  have CH16 := CH7.trans (CHr.keep kp13 (sfS f15 sf0) CH7.1)
  have hk16 := Nat.le_trans hk7 kp13.1
  have Ol17 := Ol8.keep kp13 (allS gn3 all0)
  obtain ⟨cs13, hcs13⟩ : ∃ z, z = List.set (List.replicate 3 (0 : Int32)) 0 (x0 &&& (255 : Int32)) := ⟨_, rfl⟩
  rw [← hcs13] at na13
  have lc13 : List.length cs13 = 3 := by rw [hcs13, List.length_set]; exact (by simp only [List.length_replicate])
  have bc13 : Byt cs13 := by rw [hcs13]; exact own_setb (own_rep0 3) 0 (own_a255 _)
  obtain ⟨_, _, ⟨T18, L18, k18, n18⟩, -, X18, ⟨Lc18, hQ18, l18, y18, z18⟩, st18⟩ := Jvm.LawKit.callS X13 hx (y := my34) hown (mvT hZ (ow1 hw)) (mvT hZ (ow2 hw)) (mvT hZ (ow3 hw)) (mvT hZ (ow4 hw)) (by decide) (backOf (W := 0) (rmpi l Z a0 hw [] b3 (1 : Int32) x1 k3 cs13 1 3 T13.heap n0 Ol17 na13 lc13 rfl (by decide) (by decide) gn3) hZ (ow4 hw) (ow3 hw) (by decide) (by decide)) (g := (FL m x0 x1 x2 x3 x4 x5 174 (VI 3) (VR b3) (VR b6) (VI 3) .unset .unset [(.int x1), (.int 1), (.ref b3)])) rfl (by rw [hml]; rfl) (argsL := [(.ref b3), (.int 1), (.int x1)]) (rest := []) (lenOf pd26 rfl) rfl (w0 rfl rfl) (B at_174) (fun _ _ => ⟨rfl, rfl, (by decide : 2 + 0 ≤ _), (by decide : 8 + 0 ≤ _)⟩)
  dsimp only [Pt.U, Pt.locs, Pt.cells, Pt.slots] at X18 l18 y18 z18 st18 hQ18
  rw [l18, y18, z18] at X18
  obtain ⟨rfl, Nq18, kp18, na18⟩ := hQ18
  have N19 := Fr.app N14 Nq18
  have f20 := (Safe.keep kp13 (sfS f15 sf0) CH7.1 f15)
  have CH21 := CH16.trans (CHr.keep kp18 (sfS f20 sf0) CH16.1)
  have hk21 := Nat.le_trans hk16 kp18.1
  have Ol22 := Ol17.keep kp18 (allS gn3 all0)
  obtain ⟨cs18, hcs18⟩ : ∃ z, z = List.set cs13 1 (x1 &&& (255 : Int32)) := ⟨_, rfl⟩
  rw [← hcs18] at na18
  have lc18 : List.length cs18 = 3 := by rw [hcs18, List.length_set]; exact lc13
  have bc18 : Byt cs18 := by rw [hcs18]; exact own_setb bc13 1 (own_a255 _)
  obtain ⟨_, _, ⟨T23, L23, k23, n23⟩, -, X23, ⟨Lc23, hQ23, l23, y23, z23⟩, st23⟩ := Jvm.LawKit.callS X18 hx (y := my34) hown (mvT hZ (ow1 hw)) (mvT hZ (ow2 hw)) (mvT hZ (ow3 hw)) (mvT hZ (ow4 hw)) (by decide) (backOf (W := 0) (rmpo l Z a0 hw [] b3 (58 : Int32) x2 k3 _ (3 : Int32) T18.heap n0 Ol22 na18 (by decide)) hZ (ow4 hw) (ow3 hw) (by decide) (by decide)) (g := (FL m x0 x1 x2 x3 x4 x5 182 (VI 3) (VR b3) (VR b6) (VI 3) .unset .unset [(.int x2), (.int 58), (.ref b3)])) rfl (by rw [hml]; rfl) (argsL := [(.ref b3), (.int 58), (.int x2)]) (rest := []) (lenOf pd26 rfl) rfl (w0 rfl rfl) (B at_182) (fun _ _ => ⟨rfl, rfl, (by decide : 2 + 0 ≤ _), (by decide : 8 + 0 ≤ _)⟩)
  dsimp only [Pt.U, Pt.locs, Pt.cells, Pt.slots] at X23 l23 y23 z23 st23 hQ23
  rw [l23, y23, z23] at X23
  obtain ⟨rfl, Nq23, eq23⟩ := hQ23
  have N24 := Fr.app N19 Nq23
  obtain ⟨_, _, ⟨T25, L25, k25, n25⟩, -, X25, ⟨Lc25, hQ25, l25, y25, z25⟩, st25⟩ := Jvm.LawKit.callS X23 hx (y := my34) hown (mvT hZ (ow1 hw)) (mvT hZ (ow2 hw)) (mvT hZ (ow3 hw)) (mvT hZ (ow4 hw)) (by decide) (backOf (W := 0) (rmpo l Z a0 hw [] b3 (59 : Int32) x3 k3 _ (3 : Int32) T18.heap n0 Ol22 na18 (by decide)) hZ (ow4 hw) (ow3 hw) (by decide) (by decide)) (g := (FL m x0 x1 x2 x3 x4 x5 190 (VI 3) (VR b3) (VR b6) (VI 3) .unset .unset [(.int x3), (.int 59), (.ref b3)])) rfl (by rw [hml]; rfl) (argsL := [(.ref b3), (.int 59), (.int x3)]) (rest := []) (lenOf pd26 rfl) rfl (w0 rfl rfl) (B at_190) (fun _ _ => ⟨rfl, eq23, (by decide : 2 + 0 ≤ _), (by decide : 8 + 0 ≤ _)⟩)
  dsimp only [Pt.U, Pt.locs, Pt.cells, Pt.slots] at X25 l25 y25 z25 st25 hQ25
  rw [l25, y25, z25] at X25
  obtain ⟨rfl, Nq25, eq25⟩ := hQ25
  have N26 := Fr.app N24 Nq25
  obtain ⟨_, _, ⟨T27, L27, k27, n27⟩, -, X27, ⟨Lc27, hQ27, l27, y27, z27⟩, st27⟩ := Jvm.LawKit.callS X25 hx (y := my34) hown (mvT hZ (ow1 hw)) (mvT hZ (ow2 hw)) (mvT hZ (ow3 hw)) (mvT hZ (ow4 hw)) (by decide) (backOf (W := 0) (rmpo l Z a0 hw [] b3 (60 : Int32) x4 k3 _ (3 : Int32) T18.heap n0 Ol22 na18 (by decide)) hZ (ow4 hw) (ow3 hw) (by decide) (by decide)) (g := (FL m x0 x1 x2 x3 x4 x5 199 (VI 3) (VR b3) (VR b6) (VI 3) .unset .unset [(.int x4), (.int 60), (.ref b3)])) rfl (by rw [hml]; rfl) (argsL := [(.ref b3), (.int 60), (.int x4)]) (rest := []) (lenOf pd26 rfl) rfl (w0 rfl rfl) (B at_199) (fun _ _ => ⟨rfl, eq25, (by decide : 2 + 0 ≤ _), (by decide : 8 + 0 ≤ _)⟩)
  dsimp only [Pt.U, Pt.locs, Pt.cells, Pt.slots] at X27 l27 y27 z27 st27 hQ27
  rw [l27, y27, z27] at X27
  obtain ⟨rfl, Nq27, eq27⟩ := hQ27
  have N28 := Fr.app N26 Nq27
  obtain ⟨_, _, ⟨T29, L29, k29, n29⟩, -, X29, ⟨Lc29, hQ29, l29, y29, z29⟩, st29⟩ := Jvm.LawKit.callS X27 hx (y := my34) hown (mvT hZ (ow1 hw)) (mvT hZ (ow2 hw)) (mvT hZ (ow3 hw)) (mvT hZ (ow4 hw)) (by decide) (backOf (W := 0) (rmpi l Z a0 hw [] b3 (2 : Int32) ((x5.toUInt32 >>> ((8 : Int32) &&& 31).toUInt32).toInt32) k3 cs18 2 3 T18.heap n0 Ol22 na18 lc18 rfl (by decide) (by decide) gn3) hZ (ow4 hw) (ow3 hw) (by decide) (by decide)) (g := (FL m x0 x1 x2 x3 x4 x5 213 (VI 3) (VR b3) (VR b6) (VI 3) .unset .unset [(.int ((x5.toUInt32 >>> ((8 : Int32) &&& 31).toUInt32).toInt32)), (.int 2), (.ref b3)])) rfl (by rw [hml]; rfl) (argsL := [(.ref b3), (.int 2), (.int ((x5.toUInt32 >>> ((8 : Int32) &&& 31).toUInt32).toInt32))]) (rest := []) (lenOf pd26 rfl) rfl (w0 rfl rfl) (B at_213) (fun _ _ => ⟨rfl, eq27, (by decide : 2 + 0 ≤ _), (by decide : 8 + 0 ≤ _)⟩)
  dsimp only [Pt.U, Pt.locs, Pt.cells, Pt.slots] at X29 l29 y29 z29 st29 hQ29
  rw [l29, y29, z29] at X29
  obtain ⟨rfl, Nq29, kp29, na29⟩ := hQ29
  have N30 := Fr.app N28 Nq29
  have f31 := (Safe.keep kp18 (sfS f20 sf0) CH16.1 f20)
  have CH32 := CH21.trans (CHr.keep kp29 (sfS f31 sf0) CH21.1)
  have hk32 := Nat.le_trans hk21 kp29.1
  have Ol33 := Ol22.keep kp29 (allS gn3 all0)
  obtain ⟨cs29, hcs29⟩ : ∃ z, z = List.set cs18 2 (((x5.toUInt32 >>> ((8 : Int32) &&& 31).toUInt32).toInt32) &&& (255 : Int32)) := ⟨_, rfl⟩
  rw [← hcs29] at na29
  have lc29 : List.length cs29 = 3 := by rw [hcs29, List.length_set]; exact lc18
  have bc29 : Byt cs29 := by rw [hcs29]; exact own_setb bc18 2 (own_a255 _)
  obtain ⟨_, _, ⟨T34, L34, k34, n34⟩, -, X34, ⟨Lc34, hQ34, l34, y34, z34⟩, st34⟩ := Jvm.LawKit.callS X29 hx (y := my7) hown (mvT hZ (ow5 hw)) (mvT hZ (ow6 hw)) (mvT hZ (ow7 hw)) (mvT hZ (ow8 hw)) (by decide) (backOf (W := 0) (rmmin l Z a0 hw [] (3 : Int32) (60 : Int32)  T29.heap n0 Ol33 ) hZ (ow8 hw) (ow7 hw) (by decide) (by decide)) (g := (FL m x0 x1 x2 x3 x4 x5 220 (VI 3) (VR b3) (VR b6) (VI 3) .unset .unset [(.int 60), (.int 3)])) rfl (by rw [hml]; rfl) (argsL := [(.int 3), (.int 60)]) (rest := []) (lenOf pd2 rfl) rfl (w0 rfl rfl) (B at_220) (fun _ _ => ⟨rfl, rfl, (by decide : 2 + 0 ≤ _), (by decide : 8 + 0 ≤ _)⟩)
  dsimp only [Pt.U, Pt.locs, Pt.cells, Pt.slots] at X34 l34 y34 z34 st34 hQ34
  rw [l34, y34, z34] at X34
  obtain ⟨hv34, Nq34, eq34⟩ := hQ34
  obtain rfl := own_lit hv34 (y := (3 : Int32)) (by decide)
  have N35 := Fr.app N30 Nq34
  have f36 := (((Vm11.keep kp13 (ninS (Ne.symm neb3_6) nin0)).keep kp18 (ninS (Ne.symm neb3_6) nin0)).keep kp29 (ninS (Ne.symm neb3_6) nin0))
  obtain ⟨cl37, Ar37, q37, S37, M37, H37, G37⟩ := id f36
  have hin37 : ¬ ((0 : Int32) < 0 ∨ cl37.slots.size ≤ ((0 : Int32)).toNatClampNeg) := inb_of S37 ⟨by decide, by decide⟩
  obtain ⟨T38, h38, X38, e38, W38, st38⟩ := stC X34 hx hZ eq34 Ar37 (j := (0 : Int32)) hin37 (g := (FL m x0 x1 x2 x3 x4 x5 230 (VI 3) (VR b3) (VR b6) (VI 3) (VI 3) .unset [(.int 34), (.int 0), (.ref b6)])) rfl rfl (B at_230)
  have V38 : Arv Z h38 b6 k6 .char (5 : Int32) (List.map Value.int (List.set (List.replicate 5 (0 : Int32)) 0 (34 : Int32))) (.int (0 : Int32)) := (by have q := (Arv.set Ar37 q37 S37 M37 H37 G37 (fits_nar_char _) W38 0 rfl (by rw [List.length_map, ((by simp only [List.length_replicate]) : List.length (List.replicate 5 (0 : Int32)) = 5)]; decide)); rw [show nar .char (34 : Int32) = 34 by decide] at q; rw [List.map_set]; exact q)
  have f39 := (Safe.keep kp29 (sfS f31 sf0) CH21.1 (Safe.keep kp18 (sfS f20 sf0) CH16.1 (Safe.keep kp13 (sfS f15 sf0) CH7.1 Y6)))
  have CH40 := CH32.trans (CHr.wr W38 f39 CH32.1)
  have hk40 := Nat.le_trans hk32 (Keep.of_wr W38).1
  have N41 := Fr.snoc X38 N35 gn6
  have Ol41 := Ol33.wr W38 gn6
  have f42 := (na29.other W38 neb3_6)
  obtain ⟨_, _, ⟨T43, L43, k43, n43⟩, -, X43, ⟨Lc43, hQ43, l43, y43, z43⟩, st43⟩ := Jvm.LawKit.callS X38 hx (y := my35) hown (mvT hZ (ow9 hw)) (mvT hZ (ow10 hw)) (mvT hZ (ow3 hw)) (mvT hZ (ow11 hw)) (by decide) (backOf (W := 0) (rmci l Z a0 hw [] b3 b6 (0 : Int32) (3 : Int32) k3 k6 cs29 (List.set (List.replicate 5 (0 : Int32)) 0 (34 : Int32)) 0 3 5 3 h38 n0 Ol41 f42 V38 (by rw [List.length_set]; exact (by simp only [List.length_replicate])) bc29 rfl rfl (by decide) (by decide) (by decide) (by decide) (by decide) gn6) hZ (ow11 hw) (ow3 hw) (by decide) (by decide)) (g := (FL m x0 x1 x2 x3 x4 x5 238 (VI 3) (VR b3) (VR b6) (VI 3) (VI 3) .unset [(.int 3), (.int 0), (.ref b6), (.ref b3)])) rfl (by rw [hml]; rfl) (argsL := [(.ref b3), (.ref b6), (.int 0), (.int 3)]) (rest := []) (lenOf pd27 rfl) rfl (w0 rfl rfl) (B at_238) (fun _ _ => ⟨rfl, e38, (by decide : 2 + 0 ≤ _), (by decide : 8 + 0 ≤ _)⟩)
  dsimp only [Pt.U, Pt.locs, Pt.cells, Pt.slots] at X43 l43 y43 z43 st43 hQ43
  rw [l43, y43, z43] at X43
  obtain ⟨rfl, Nq43, kp43, na43⟩ := hQ43
  have N44 := Fr.app N41 Nq43
  have f45 := (Safe.wr W38 f39 CH32.1 f39)
  have CH46 := CH40.trans (CHr.keep kp43 (sfS f45 sf0) CH40.1)
  have hk46 := Nat.le_trans hk40 kp43.1
  have Ol47 := Ol41.keep kp43 (allS gn6 all0)
  obtain ⟨cs43, hcs43⟩ : ∃ z, z = List.set (List.set (List.replicate 5 (0 : Int32)) 0 (34 : Int32)) (0 + 1) (List.getD cs29 0 0) := ⟨_, rfl⟩
  rw [← hcs43] at na43
  have lc43 : List.length cs43 = 5 := by rw [hcs43, List.length_set]; exact (by rw [List.length_set]; exact (by simp only [List.length_replicate]))
  have bc43 : Byt cs43 := by rw [hcs43]; exact own_setb (own_setb (own_rep0 5) 0 (by decide)) (0 + 1) (own_gdb bc29 0)
  have f48 := (f42.keep kp43 (ninS neb3_6 nin0))
  obtain ⟨_, _, ⟨T49, L49, k49, n49⟩, -, X49, ⟨Lc49, hQ49, l49, y49, z49⟩, st49⟩ := Jvm.LawKit.callS X43 hx (y := my35) hown (mvT hZ (ow9 hw)) (mvT hZ (ow10 hw)) (mvT hZ (ow3 hw)) (mvT hZ (ow11 hw)) (by decide) (backOf (W := 0) (rmci l Z a0 hw [] b3 b6 (1 : Int32) (3 : Int32) k3 k6 cs29 cs43 1 3 5 3 T43.heap n0 Ol47 f48 na43 lc43 bc29 rfl rfl (by decide) (by decide) (by decide) (by decide) (by decide) gn6) hZ (ow11 hw) (ow3 hw) (by decide) (by decide)) (g := (FL m x0 x1 x2 x3 x4 x5 248 (VI 3) (VR b3) (VR b6) (VI 3) (VI 3) .unset [(.int 3), (.int 1), (.ref b6), (.ref b3)])) rfl (by rw [hml]; rfl) (argsL := [(.ref b3), (.ref b6), (.int 1), (.int 3)]) (rest := []) (lenOf pd27 rfl) rfl (w0 rfl rfl) (B at_248) (fun _ _ => ⟨rfl, rfl, (by decide : 2 + 0 ≤ _), (by decide : 8 + 0 ≤ _)⟩)
  dsimp only [Pt.U, Pt.locs, Pt.cells, Pt.slots] at X49 l49 y49 z49 st49 hQ49
  rw [l49, y49, z49] at X49
  obtain ⟨rfl, Nq49, kp49, na49⟩ := hQ49
  have N50 := Fr.app N44 Nq49
  have f51 := (Safe.keep kp43 (sfS f45 sf0) CH40.1 f45)
  have CH52 := CH46.trans (CHr.keep kp49 (sfS f51 sf0) CH46.1)
  have hk52 := Nat.le_trans hk46 kp49.1
  have Ol53 := Ol47.keep kp49 (allS gn6 all0)
  obtain ⟨cs49, hcs49⟩ : ∃ z, z = List.set cs43 (1 + 1) (List.getD cs29 1 0) := ⟨_, rfl⟩
  rw [← hcs49] at na49
  have lc49 : List.length cs49 = 5 := by rw [hcs49, List.length_set]; exact lc43
  have bc49 : Byt cs49 := by rw [hcs49]; exact own_setb bc43 (1 + 1) (own_gdb bc29 1)
  obtain ⟨_, _, ⟨T54, L54, k54, n54⟩, -, X54, ⟨Lc54, hQ54, l54, y54, z54⟩, st54⟩ := Jvm.LawKit.callS X49 hx (y := my35) hown (mvT hZ (ow9 hw)) (mvT hZ (ow10 hw)) (mvT hZ (ow3 hw)) (mvT hZ (ow11 hw)) (by decide) (backOf (W := 0) (rmco l Z a0 hw [] b3 b6 (58 : Int32) (3 : Int32)  T49.heap n0 Ol53 (by decide)) hZ (ow11 hw) (ow3 hw) (by decide) (by decide)) (g := (FL m x0 x1 x2 x3 x4 x5 259 (VI 3) (VR b3) (VR b6) (VI 3) (VI 3) .unset [(.int 3), (.int 58), (.ref b6), (.ref b3)])) rfl (by rw [hml]; rfl) (argsL := [(.ref b3), (.ref b6), (.int 58), (.int 3)]) (rest := []) (lenOf pd27 rfl) rfl (w0 rfl rfl) (B at_259) (fun _ _ => ⟨rfl, rfl, (by decide : 2 + 0 ≤ _), (by decide : 8 + 0 ≤ _)⟩)
  dsimp only [Pt.U, Pt.locs, Pt.cells, Pt.slots] at X54 l54 y54 z54 st54 hQ54
  rw [l54, y54, z54] at X54
  obtain ⟨rfl, Nq54, eq54⟩ := hQ54
  have N55 := Fr.app N50 Nq54
  obtain ⟨_, _, ⟨T56, L56, k56, n56⟩, -, X56, ⟨Lc56, hQ56, l56, y56, z56⟩, st56⟩ := Jvm.LawKit.callS X54 hx (y := my35) hown (mvT hZ (ow9 hw)) (mvT hZ (ow10 hw)) (mvT hZ (ow3 hw)) (mvT hZ (ow11 hw)) (by decide) (backOf (W := 0) (rmco l Z a0 hw [] b3 b6 (59 : Int32) (3 : Int32)  T49.heap n0 Ol53 (by decide)) hZ (ow11 hw) (ow3 hw) (by decide) (by decide)) (g := (FL m x0 x1 x2 x3 x4 x5 270 (VI 3) (VR b3) (VR b6) (VI 3) (VI 3) .unset [(.int 3), (.int 59), (.ref b6), (.ref b3)])) rfl (by rw [hml]; rfl) (argsL := [(.ref b3), (.ref b6), (.int 59), (.int 3)]) (rest := []) (lenOf pd27 rfl) rfl (w0 rfl rfl) (B at_270) (fun _ _ => ⟨rfl, eq54, (by decide : 2 + 0 ≤ _), (by decide : 8 + 0 ≤ _)⟩)
  dsimp only [Pt.U, Pt.locs, Pt.cells, Pt.slots] at X56 l56 y56 z56 st56 hQ56
  rw [l56, y56, z56] at X56
  obtain ⟨rfl, Nq56, eq56⟩ := hQ56
  have N57 := Fr.app N55 Nq56
  obtain ⟨_, _, ⟨T58, L58, k58, n58⟩, -, X58, ⟨Lc58, hQ58, l58, y58, z58⟩, st58⟩ := Jvm.LawKit.callS X56 hx (y := my35) hown (mvT hZ (ow9 hw)) (mvT hZ (ow10 hw)) (mvT hZ (ow3 hw)) (mvT hZ (ow11 hw)) (by decide) (backOf (W := 0) (rmco l Z a0 hw [] b3 b6 (60 : Int32) (3 : Int32)  T49.heap n0 Ol53 (by decide)) hZ (ow11 hw) (ow3 hw) (by decide) (by decide)) (g := (FL m x0 x1 x2 x3 x4 x5 281 (VI 3) (VR b3) (VR b6) (VI 3) (VI 3) .unset [(.int 3), (.int 60), (.ref b6), (.ref b3)])) rfl (by rw [hml]; rfl) (argsL := [(.ref b3), (.ref b6), (.int 60), (.int 3)]) (rest := []) (lenOf pd27 rfl) rfl (w0 rfl rfl) (B at_281) (fun _ _ => ⟨rfl, eq56, (by decide : 2 + 0 ≤ _), (by decide : 8 + 0 ≤ _)⟩)
  dsimp only [Pt.U, Pt.locs, Pt.cells, Pt.slots] at X58 l58 y58 z58 st58 hQ58
  rw [l58, y58, z58] at X58
  obtain ⟨rfl, Nq58, eq58⟩ := hQ58
  have N59 := Fr.app N57 Nq58
  have f60 := (f48.keep kp49 (ninS neb3_6 nin0))
  obtain ⟨_, _, ⟨T61, L61, k61, n61⟩, -, X61, ⟨Lc61, hQ61, l61, y61, z61⟩, st61⟩ := Jvm.LawKit.callS X58 hx (y := my35) hown (mvT hZ (ow9 hw)) (mvT hZ (ow10 hw)) (mvT hZ (ow3 hw)) (mvT hZ (ow11 hw)) (by decide) (backOf (W := 0) (rmci l Z a0 hw [] b3 b6 (2 : Int32) (3 : Int32) k3 k6 cs29 cs49 2 3 5 3 T49.heap n0 Ol53 f60 na49 lc49 bc29 rfl rfl (by decide) (by decide) (by decide) (by decide) (by decide) gn6) hZ (ow11 hw) (ow3 hw) (by decide) (by decide)) (g := (FL m x0 x1 x2 x3 x4 x5 294 (VI 3) (VR b3) (VR b6) (VI 3) (VI 3) .unset [(.int 3), (.int 2), (.ref b6), (.ref b3)])) rfl (by rw [hml]; rfl) (argsL := [(.ref b3), (.ref b6), (.int 2), (.int 3)]) (rest := []) (lenOf pd27 rfl) rfl (w0 rfl rfl) (B at_294) (fun _ _ => ⟨rfl, eq58, (by decide : 2 + 0 ≤ _), (by decide : 8 + 0 ≤ _)⟩)
  dsimp only [Pt.U, Pt.locs, Pt.cells, Pt.slots] at X61 l61 y61 z61 st61 hQ61
  rw [l61, y61, z61] at X61
  obtain ⟨rfl, Nq61, kp61, na61⟩ := hQ61
  have N62 := Fr.app N59 Nq61
  have f63 := (Safe.keep kp49 (sfS f51 sf0) CH46.1 f51)
  have CH64 := CH52.trans (CHr.keep kp61 (sfS f63 sf0) CH52.1)
  have hk64 := Nat.le_trans hk52 kp61.1
  have Ol65 := Ol53.keep kp61 (allS gn6 all0)
  obtain ⟨cs61, hcs61⟩ : ∃ z, z = List.set cs49 (2 + 1) (List.getD cs29 2 0) := ⟨_, rfl⟩
  rw [← hcs61] at na61
  have lc61 : List.length cs61 = 5 := by rw [hcs61, List.length_set]; exact lc49
  have bc61 : Byt cs61 := by rw [hcs61]; exact own_setb bc49 (2 + 1) (own_gdb bc29 2)
  obtain ⟨cl66, Ar66, q66, S66, M66, H66, G66⟩ := id na61
  have hin66 : ¬ ((4 : Int32) < 0 ∨ cl66.slots.size ≤ ((4 : Int32)).toNatClampNeg) := inb_of S66 ⟨by decide, by decide⟩
  obtain ⟨T67, h67, X67, e67, W67, st67⟩ := stC X61 hx hZ rfl Ar66 (j := (4 : Int32)) hin66 (g := (FL m x0 x1 x2 x3 x4 x5 343 (VI 3) (VR b3) (VR b6) (VI 3) (VI 3) .unset [(.int 34), (.int 4), (.ref b6)])) rfl rfl (B at_343)
  have V67 : Arv Z h67 b6 k6 .char (5 : Int32) (List.map Value.int (List.set cs61 4 (34 : Int32))) (.int (0 : Int32)) := (by have q := (Arv.set Ar66 q66 S66 M66 H66 G66 (fits_nar_char _) W67 4 rfl (by rw [List.length_map, (lc61 : List.length cs61 = 5)]; decide)); rw [show nar .char (34 : Int32) = 34 by decide] at q; rw [List.map_set]; exact q)
  have f68 := (Safe.keep kp61 (sfS f63 sf0) CH52.1 f63)
  have CH69 := CH64.trans (CHr.wr W67 f68 CH64.1)
  have hk69 := Nat.le_trans hk64 (Keep.of_wr W67).1
  have N70 := Fr.snoc X67 N62 gn6
  have Ol70 := Ol65.wr W67 gn6
  have f71 := ((f60.keep kp61 (ninS neb3_6 nin0)).other W67 neb3_6)
  obtain ⟨T72, h72, X72, e72, E72, A72, D72, U72, st72⟩ := newO X67 hx hZ hown (ow12 hw) (ow13 hw) (ow14 hw) e67 (g := (FL m x0 x1 x2 x3 x4 x5 344 (VI 3) (VR b3) (VR b6) (VI 3) (VI 3) .unset [])) rfl (B at_344) (by decide) (by decide)
  obtain ⟨b72, g72⟩ : ∃ z, z = h67.size := ⟨_, rfl⟩
  rw [← g72] at A72 D72 U72 st72
  have gn72 : n0 ≤ b72 := Nat.le_trans (own_sz Ol70) (Nat.le_of_eq g72.symm)
  have neb3_72 : b3 ≠ b72 := Nat.ne_of_lt (Nat.lt_of_lt_of_le f71.lt (Nat.le_of_eq g72.symm))
  have neb6_72 : b6 ≠ b72 := Nat.ne_of_lt (Nat.lt_of_lt_of_le V67.lt (Nat.le_of_eq g72.symm))
  have Y72 := Safe.ext E72 CH69.1 (Safe.new (x := b72) (Nat.le_of_eq g72.symm))
  have CH73 := CH69.trans (CHr.ext E72 CH69.1)
  have hk73 := Nat.le_trans hk69 E72.1
  have Ol74 := Ol70.ext E72
  have Fcoder_72 : Fld Z h72 b72 "java/lang/String" "coder" "B" (.int (0 : Int32)) := D72 (Or.inr (ow38 hw)) (ty := .byte) (by decide)
  have Fvalue_72 : Fld Z h72 b72 "java/lang/String" "value" "[B" .null := D72 (Or.inr (ow40 hw)) (ty := (.array .byte)) (by decide)
  have f75 := (f71.ext E72)
  obtain ⟨_, _, ⟨T76, L76, k76, n76⟩, -, X76, ⟨Lc76, hQ76, l76, y76, z76⟩, st76⟩ := X72.specialBack hx (y := my1) rfl hown (mvT hZ (ow15 hw)) (mvT hZ (ow16 hw)) (mvT hZ (ow17 hw)) (by decide) (StrChars.Road.backV (W := 1) hZ (own_ws hw) (kI := 4) (ow13 hw) (cs := cs29) (bs := List.map (fun c => c.toInt8.toInt32) cs29) (n := 3) gn72 (own_sz Ol74) A72 Fvalue_72 Fcoder_72 f75 (O2.ext Ol74.2) P5 lc29 rfl (by decide) (by decide) bc29 rfl (by decide) (by decide)) (g := (FL m x0 x1 x2 x3 x4 x5 350 (VI 3) (VR b3) (VR b6) (VI 3) (VI 3) .unset [(.ref b3), (.ref b72), (.ref b72)])) rfl (by rw [hml]; rfl) (Steps.refl _) (a := b72) (argsL := [(.ref b3)]) (rest := [(.ref b72)]) (lenOf pd28 rfl) rfl (w0 rfl rfl) (B at_350) (fun _ _ => ⟨rfl, e72, (by decide : 3 + 1 ≤ _), (by decide : 12 + 3 ≤ _)⟩)
  dsimp only [Pt.U, Pt.locs, Pt.cells, Pt.slots] at X76 l76 y76 z76 st76 hQ76
  rw [l76, y76, z76] at X76
  obtain ⟨rfl, Nq76, kp76, sE76, sC76, t76, k76_, -, -, -, sV76, sA76⟩ := hQ76
  have ln76 : List.length cs29 = 3 := lc29
  have Sp76 : StrP Z _ b72 cs29 := ⟨sE76, sC76, bc29, (by rw [ln76]; decide), t76, k76_, sV76, (by rw [ln76]; exact sA76)⟩
  have N77 := Fr.app N70 Nq76
  have CH78 := CH73.trans (CHr.keep kp76 (sfS Y72 sf0) CH73.1)
  have hk78 := Nat.le_trans hk73 kp76.1
  have Ol79 := Ol74.keep kp76 (allS gn72 all0)
  obtain ⟨sEI, sCI, spI, slI, tI, skI, sVI, sAI⟩ := id Sp76
  obtain ⟨_, _, ⟨T80, L80, k80, n80⟩, -, Xr80, hSr80, hgr80, ⟨Lc80, hQ80, l80, y80, z80, CR80⟩, st80⟩ := callSS X76 hx (y := my33) hown (mvT hZ (ow41 hw)) (mvT hZ (ow42 hw)) (mvT hZ (ow43 hw)) (mvT hZ (ow44 hw)) (by decide) (backOfSH (W := 0) (rmqa l Z a0 hw [] b72 cs29 G1 fm T76.heap n0 Ol79 O2 P5 O4 rf ⟨sEI, sCI, spI, slI, tI, skI, sVI, sAI⟩ (by rw [lc29]; decide)) hZ (ow44 hw) (ow43 hw) (by decide) (by decide) (own_EW hw) CH78.1) (g := (FL m x0 x1 x2 x3 x4 x5 353 (VI 3) (VR b3) (VR b6) (VI 3) (VI 3) .unset [(.ref b72)])) rfl (by rw [hml]; rfl) (argsL := [(.ref b72)]) (rest := []) (lenOf pd29 rfl) rfl (w0 rfl rfl) (B at_353) (fun _ _ => ⟨rfl, rfl, (by decide : 4 + 8 ≤ _), (by decide : 15 + 105 ≤ _)⟩)
  dsimp only [Pt.U, Pt.locs, Pt.cells, Pt.slots] at Xr80 hSr80 hgr80 l80 y80 z80 CR80 st80 hQ80
  rw [l80, y80, z80] at Xr80
  obtain ⟨X80, hS80, hZ80, hown80⟩ := rebS hS0 hk78 Xr80 hSr80 hgr80 hZ hown
  have hk80 : T80.heap.size ≤ T80.heap.size := Nat.le_refl _
  obtain ⟨qb80, rfl, Nq80, kp80, Sq80⟩ := hQ80
  have N81 := Fr.app N77 Nq80
  have f82 := (f75.keep kp76 (ninS neb3_72 nin0))
  have f83 := ((V67.ext E72).keep kp76 (ninS neb6_72 nin0))
  have CH84 := CH78.trans CR80
  have Ol85 := Ol79.keep kp80 all0
  obtain ⟨sEQ, sCQ, spQ, slQ, tQ, skQ, sVQ, sAQ⟩ := id Sq80
  have f86 := (f82.keep kp80 nin0)
  have f87 := (f83.keep kp80 nin0)
  have f88 := (sEI.keep kp80)
  have f89 := (sAI.keep kp80 nin0)
  obtain ⟨T90, h90, X90, e90, E90, A90, D90, U90, st90⟩ := newO X80 hx hZ80 hown80 (ow12 hw) (ow13 hw) (ow14 hw) rfl (g := (FL m x0 x1 x2 x3 x4 x5 360 (VI 3) (VR b3) (VR b6) (VI 3) (VI 3) (VR qb80) [(.ref qb80)])) rfl (B at_360) (by decide) (by decide)
  obtain ⟨b90, g90⟩ : ∃ z, z = T80.heap.size := ⟨_, rfl⟩
  rw [← g90] at A90 D90 U90 st90
  have gn90 : n0 ≤ b90 := Nat.le_trans (own_sz Ol85) (Nat.le_of_eq g90.symm)
  have neb3_90 : b3 ≠ b90 := Nat.ne_of_lt (Nat.lt_of_lt_of_le f86.lt (Nat.le_of_eq g90.symm))
  have neb6_90 : b6 ≠ b90 := Nat.ne_of_lt (Nat.lt_of_lt_of_le f87.lt (Nat.le_of_eq g90.symm))
  have neb72_90 : b72 ≠ b90 := Nat.ne_of_lt (Nat.lt_of_lt_of_le f88.lt (Nat.le_of_eq g90.symm))
  have netI_90 : tI ≠ b90 := Nat.ne_of_lt (Nat.lt_of_lt_of_le f89.lt (Nat.le_of_eq g90.symm))
  have neqb80_90 : qb80 ≠ b90 := Nat.ne_of_lt (Nat.lt_of_lt_of_le sEQ.lt (Nat.le_of_eq g90.symm))
  have netQ_90 : tQ ≠ b90 := Nat.ne_of_lt (Nat.lt_of_lt_of_le sAQ.lt (Nat.le_of_eq g90.symm))
  have Y90 := Safe.ext E90 CH84.1 (Safe.new (x := b90) (Nat.le_of_eq g90.symm))
  have CH91 := CH84.trans (CHr.ext E90 CH84.1)
  have hk91 := Nat.le_trans hk80 E90.1
  have Ol92 := Ol85.ext E90
  have Fcoder_90 : Fld Z h90 b90 "java/lang/String" "coder" "B" (.int (0 : Int32)) := D90 (Or.inr (ow38 hw)) (ty := .byte) (by decide)
  have Fvalue_90 : Fld Z h90 b90 "java/lang/String" "value" "[B" .null := D90 (Or.inr (ow40 hw)) (ty := (.array .byte)) (by decide)
  have f93 := (f87.ext E90)
  obtain ⟨_, _, ⟨T94, L94, k94, n94⟩, -, X94, ⟨Lc94, hQ94, l94, y94, z94⟩, st94⟩ := X90.specialBack hx (y := my1) rfl hown80 (mvT hZ80 (ow15 hw)) (mvT hZ80 (ow16 hw)) (mvT hZ80 (ow17 hw)) (by decide) (StrChars.Road.backV (W := 2) hZ80 (own_ws hw) (kI := 4) (ow13 hw) (cs := (List.set cs61 4 (34 : Int32))) (bs := List.map (fun c => c.toInt8.toInt32) (List.set cs61 4 (34 : Int32))) (n := 5) gn90 (own_sz Ol92) A90 Fvalue_90 Fcoder_90 f93 (O2.ext Ol92.2) P5 (by rw [List.length_set]; exact lc61) rfl (by decide) (by decide) (own_setb bc61 4 (by decide)) rfl (by decide) (by decide)) (g := (FL m x0 x1 x2 x3 x4 x5 366 (VI 3) (VR b3) (VR b6) (VI 3) (VI 3) (VR qb80) [(.ref b6), (.ref b90), (.ref b90), (.ref qb80)])) rfl (by rw [hml]; rfl) (Steps.refl _) (a := b90) (argsL := [(.ref b6)]) (rest := [(.ref b90), (.ref qb80)]) (lenOf pd28 rfl) rfl (w0 rfl rfl) (B at_366) (fun _ _ => ⟨rfl, e90, (by decide : 13 + 1 ≤ _), (by decide : 124 + 5 ≤ _)⟩)
  dsimp only [Pt.U, Pt.locs, Pt.cells, Pt.slots] at X94 l94 y94 z94 st94 hQ94
  rw [l94, y94, z94] at X94
  obtain ⟨rfl, Nq94, kp94, sE94, sC94, t94, k94_, -, -, -, sV94, sA94⟩ := hQ94
  have ln94 : List.length (List.set cs61 4 (34 : Int32)) = 5 := (by rw [List.length_set]; exact lc61)
  have Sp94 : StrP Z _ b90 (List.set cs61 4 (34 : Int32)) := ⟨sE94, sC94, (own_setb bc61 4 (by decide)), (by rw [ln94]; decide), t94, k94_, sV94, (by rw [ln94]; exact sA94)⟩
  have N95 := Fr.app N81 Nq94
  have CH96 := CH91.trans (CHr.keep kp94 (sfS Y90 sf0) CH91.1)
  have hk96 := Nat.le_trans hk91 kp94.1
  have Ol97 := Ol92.keep kp94 (allS gn90 all0)
  obtain ⟨sEO, sCO, spO, slO, tO, skO, sVO, sAO⟩ := id Sp94
  have f98 := ((sEQ.ext E90).keep kp94)
  have f99 := ((sVQ.ext E90).keep kp94 (ninS neqb80_90 nin0))
  have f100 := ((sCQ.ext E90).keep kp94 (ninS neqb80_90 nin0))
  have f101 := ((sAQ.ext E90).keep kp94 (ninS netQ_90 nin0))
  obtain ⟨cq102, kq102, q102a, q102b, q102c⟩ := isOf hZ80 rfl f98
  obtain ⟨_, _, ⟨T102, L102, k102, n102⟩, -, X102, ⟨Lc102, hQ102, l102, y102, z102⟩, st102⟩ := X94.virtualBack hx (y := my36) (z := my36) hown80 (mvT hZ80 (ow156 hw)) (mvT hZ80 (ow157 hw)) (notFace_of_selects (args := #[]) (mvT hZ80 (ow159 hw))) (mvT hZ80 (ow159 hw)) (mvT hZ80 (ow158 hw)) (by decide) (StrChars.Road.eqW (W := 0) hZ80 (own_weq hw) (kI := 4) (ow13 hw) f98 f99 f100 f101 (StrChars.Road.codOf rfl (fun c hc => (spQ c hc).2)) (own_up _ spQ) slQ sEO sVO sCO sAO (StrChars.Road.codOf rfl (fun c hc => (spO c hc).2)) (own_up _ spO) slO (O2.ext Ol97.2) P5 (by decide) (by decide)) q102a q102c (g := (FL m x0 x1 x2 x3 x4 x5 369 (VI 3) (VR b3) (VR b6) (VI 3) (VI 3) (VR qb80) [(.ref b90), (.ref qb80)])) rfl (by rw [hml]; rfl) (Steps.refl _) (argsL := [(.ref b90)]) (rest := []) (lenOf pd30 rfl) rfl (w0 rfl rfl) (B at_369) (fun _ _ => ⟨rfl, rfl, (by decide : 14 + 0 ≤ _), (by decide : 129 + 0 ≤ _)⟩)
  dsimp only [Pt.U, Pt.locs, Pt.cells, Pt.slots] at X102 l102 y102 z102 st102 hQ102
  rw [l102, y102, z102] at X102
  obtain ⟨hor102, hL102, eq102⟩ := hQ102
  obtain rfl := own_eqv hor102
  have Nq102 := own_frn hL102 n0
  have N103 := Fr.app N95 Nq102
  have hAB : (qs cs29) = (List.set cs61 4 (34 : Int32)) := by rw [hcs61, hcs49, hcs43, hcs29, hcs18, hcs13]; rfl
  have pre104 : ∀ tgt, Steps p.tables e below (T102.setTop (FL m x0 x1 x2 x3 x4 x5 372 (VI 3) (VR b3) (VR b6) (VI 3) (VI 3) (VR qb80) [(.int (if (qs cs29) = (List.set cs61 4 (34 : Int32)) then (1 : Int32) else (0 : Int32)))])) tgt → Steps p.tables e below (s₁.setTop (entryFrame m #[(.int x0), (.int x1), (.int x2), (.int x3), (.int x4), (.int x5)] maxLocals)) tgt := by
    intro tgt kgo
    refine pre2 _ ?_
    refine XS.iload X0.here hx rfl (B at_7) rfl ?_
    refine XS.ifYes X0.here hx rfl (pc0 := 9) (pc' := 25) rfl (B at_9) rfl ((if0 _ _).trans (feq (by decide : ¬ ((3 : Int32) = (0 : Int32)))).2) (by decide) (by decide) ?_
    show GO p e below s₁ (FL m x0 x1 x2 x3 x4 x5 25 (VI 3) .unset .unset .unset .unset .unset []) _
    refine XS.iload X0.here hx rfl (B at_25) rfl ?_
    refine XS.iconst X0.here hx rfl (B at_27) ?_
    refine XS.icmpYes X0.here hx rfl (pc0 := 28) (pc' := 44) rfl (B at_28) rfl (feq (by decide : ¬ ((3 : Int32) = (1 : Int32)))).2 (by decide) (by decide) ?_
    show GO p e below s₁ (FL m x0 x1 x2 x3 x4 x5 44 (VI 3) .unset .unset .unset .unset .unset []) _
    refine XS.iload X0.here hx rfl (B at_44) rfl ?_
    refine XS.iconst X0.here hx rfl (B at_46) ?_
    refine XS.icmpYes X0.here hx rfl (pc0 := 47) (pc' := 63) rfl (B at_47) rfl (feq (by decide : ¬ ((3 : Int32) = (2 : Int32)))).2 (by decide) (by decide) ?_
    show GO p e below s₁ (FL m x0 x1 x2 x3 x4 x5 63 (VI 3) .unset .unset .unset .unset .unset []) _
    refine XS.iload X0.here hx rfl (B at_63) rfl ?_
    refine XS.iconst X0.here hx rfl (B at_65) ?_
    refine XS.icmpNo X0.here hx rfl (B at_66) rfl (teq (by decide : (3 : Int32) = (3 : Int32))).2 ?_
    show GO p e below s₁ (FL m x0 x1 x2 x3 x4 x5 69 (VI 3) .unset .unset .unset .unset .unset []) _
    refine XS.iconst X0.here hx rfl (B at_69) ?_
    refine st3 _ ?_
    show GO p e below T3 (FL m x0 x1 x2 x3 x4 x5 72 (VI 3) .unset .unset .unset .unset .unset [(.ref b3)]) _
    refine XS.astore X3.here hx rfl (B at_72) rfl rfl (l' := #[.val (.int x0), .val (.int x1), .val (.int x2), .val (.int x3), .val (.int x4), .val (.int x5), .val (.int (3 : Int32)), .val (.ref b3), .unset, .unset, .unset, .unset]) rfl ?_
    refine XS.iconst X3.here hx rfl (B at_74) ?_
    refine st6 _ ?_
    show GO p e below T6 (FL m x0 x1 x2 x3 x4 x5 77 (VI 3) (VR b3) .unset .unset .unset .unset [(.ref b6)]) _
    refine XS.astore X6.here hx rfl (B at_77) rfl rfl (l' := #[.val (.int x0), .val (.int x1), .val (.int x2), .val (.int x3), .val (.int x4), .val (.int x5), .val (.int (3 : Int32)), .val (.ref b3), .val (.ref b6), .unset, .unset, .unset]) rfl ?_
    refine XS.goto X6.here hx rfl (pc0 := 79) (pc' := 158) rfl (B at_79) (by decide) (by decide) ?_
    refine XS.aload X6.here hx rfl (B at_158) rfl rfl ?_
    refine X6.arraylength hx (by rw [e6]; exact Ar12.1) (State.isArrayOf_alike hZ.alike Ar12.2.1) (g := (mkF m 160 #[.val (.int x0), .val (.int x1), .val (.int x2), .val (.int x3), .val (.int x4), .val (.int x5), .val (.int (3 : Int32)), .val (.ref b3), .val (.ref b6), .unset, .unset, .unset] [(.ref b3)])) rfl rfl (B at_160) _ ?_
    rw [len_of S12 M12]
    show GO p e below T6 (FL m x0 x1 x2 x3 x4 x5 161 (VI 3) (VR b3) (VR b6) .unset .unset .unset [(.int 3)]) _
    refine XS.istore X6.here hx rfl (B at_161) rfl (l' := #[.val (.int x0), .val (.int x1), .val (.int x2), .val (.int x3), .val (.int x4), .val (.int x5), .val (.int (3 : Int32)), .val (.ref b3), .val (.ref b6), .val (.int (3 : Int32)), .unset, .unset]) rfl ?_
    refine XS.aload X6.here hx rfl (B at_163) rfl rfl ?_
    refine XS.iconst X6.here hx rfl (B at_165) ?_
    refine XS.iloadN X6.here hx rfl (B at_166) rfl ?_
    refine st13 _ ?_
    show GO p e below T13 (FL m x0 x1 x2 x3 x4 x5 170 (VI 3) (VR b3) (VR b6) (VI 3) .unset .unset []) _
    refine XS.aload X13.here hx rfl (B at_170) rfl rfl ?_
    refine XS.iconst X13.here hx rfl (B at_172) ?_
    refine XS.iloadN X13.here hx rfl (B at_173) rfl ?_
    refine st18 _ ?_
    show GO p e below T18 (FL m x0 x1 x2 x3 x4 x5 177 (VI 3) (VR b3) (VR b6) (VI 3) .unset .unset []) _
    refine XS.aload X18.here hx rfl (B at_177) rfl rfl ?_
    refine XS.bipush X18.here hx rfl (B at_179) ?_
    refine XS.iloadN X18.here hx rfl (B at_181) rfl ?_
    refine st23 _ ?_
    show GO p e below T23 (FL m x0 x1 x2 x3 x4 x5 185 (VI 3) (VR b3) (VR b6) (VI 3) .unset .unset []) _
    refine XS.aload X23.here hx rfl (B at_185) rfl rfl ?_
    refine XS.bipush X23.here hx rfl (B at_187) ?_
    refine XS.iloadN X23.here hx rfl (B at_189) rfl ?_
    refine st25 _ ?_
    show GO p e below T25 (FL m x0 x1 x2 x3 x4 x5 193 (VI 3) (VR b3) (VR b6) (VI 3) .unset .unset []) _
    refine XS.aload X25.here hx rfl (B at_193) rfl rfl ?_
    refine XS.bipush X25.here hx rfl (B at_195) ?_
    refine XS.iload X25.here hx rfl (B at_197) rfl ?_
    refine st27 _ ?_
    show GO p e below T27 (FL m x0 x1 x2 x3 x4 x5 202 (VI 3) (VR b3) (VR b6) (VI 3) .unset .unset []) _
    refine XS.aload X27.here hx rfl (B at_202) rfl rfl ?_
    refine XS.iload X27.here hx rfl (B at_204) rfl ?_
    refine XS.iconst X27.here hx rfl (B at_206) ?_
    refine XS.isub X27.here hx rfl (B at_207) rfl ?_
    refine XS.iload X27.here hx rfl (B at_208) rfl ?_
    refine XS.bipush X27.here hx rfl (B at_210) ?_
    refine XS.iushr X27.here hx rfl (B at_212) rfl ?_
    refine st29 _ ?_
    show GO p e below T29 (FL m x0 x1 x2 x3 x4 x5 216 (VI 3) (VR b3) (VR b6) (VI 3) .unset .unset []) _
    refine XS.iload X29.here hx rfl (B at_216) rfl ?_
    refine XS.bipush X29.here hx rfl (B at_218) ?_
    refine st34 _ ?_
    show GO p e below T34 (FL m x0 x1 x2 x3 x4 x5 223 (VI 3) (VR b3) (VR b6) (VI 3) .unset .unset [(.int 3)]) _
    refine XS.istore X34.here hx rfl (B at_223) rfl (l' := #[.val (.int x0), .val (.int x1), .val (.int x2), .val (.int x3), .val (.int x4), .val (.int x5), .val (.int (3 : Int32)), .val (.ref b3), .val (.ref b6), .val (.int (3 : Int32)), .val (.int (3 : Int32)), .unset]) rfl ?_
    refine XS.aload X34.here hx rfl (B at_225) rfl rfl ?_
    refine XS.iconst X34.here hx rfl (B at_227) ?_
    refine XS.bipush X34.here hx rfl (B at_228) ?_
    refine st38 _ ?_
    show GO p e below T38 (FL m x0 x1 x2 x3 x4 x5 231 (VI 3) (VR b3) (VR b6) (VI 3) (VI 3) .unset []) _
    refine XS.aload X38.here hx rfl (B at_231) rfl rfl ?_
    refine XS.aload X38.here hx rfl (B at_233) rfl rfl ?_
    refine XS.iconst X38.here hx rfl (B at_235) ?_
    refine XS.iload X38.here hx rfl (B at_236) rfl ?_
    refine st43 _ ?_
    show GO p e below T43 (FL m x0 x1 x2 x3 x4 x5 241 (VI 3) (VR b3) (VR b6) (VI 3) (VI 3) .unset []) _
    refine XS.aload X43.here hx rfl (B at_241) rfl rfl ?_
    refine XS.aload X43.here hx rfl (B at_243) rfl rfl ?_
    refine XS.iconst X43.here hx rfl (B at_245) ?_
    refine XS.iload X43.here hx rfl (B at_246) rfl ?_
    refine st49 _ ?_
    show GO p e below T49 (FL m x0 x1 x2 x3 x4 x5 251 (VI 3) (VR b3) (VR b6) (VI 3) (VI 3) .unset []) _
    refine XS.aload X49.here hx rfl (B at_251) rfl rfl ?_
    refine XS.aload X49.here hx rfl (B at_253) rfl rfl ?_
    refine XS.bipush X49.here hx rfl (B at_255) ?_
    refine XS.iload X49.here hx rfl (B at_257) rfl ?_
    refine st54 _ ?_
    show GO p e below T54 (FL m x0 x1 x2 x3 x4 x5 262 (VI 3) (VR b3) (VR b6) (VI 3) (VI 3) .unset []) _
    refine XS.aload X54.here hx rfl (B at_262) rfl rfl ?_
    refine XS.aload X54.here hx rfl (B at_264) rfl rfl ?_
    refine XS.bipush X54.here hx rfl (B at_266) ?_
    refine XS.iload X54.here hx rfl (B at_268) rfl ?_
    refine st56 _ ?_
    show GO p e below T56 (FL m x0 x1 x2 x3 x4 x5 273 (VI 3) (VR b3) (VR b6) (VI 3) (VI 3) .unset []) _
    refine XS.aload X56.here hx rfl (B at_273) rfl rfl ?_
    refine XS.aload X56.here hx rfl (B at_275) rfl rfl ?_
    refine XS.bipush X56.here hx rfl (B at_277) ?_
    refine XS.iload X56.here hx rfl (B at_279) rfl ?_
    refine st58 _ ?_
    show GO p e below T58 (FL m x0 x1 x2 x3 x4 x5 284 (VI 3) (VR b3) (VR b6) (VI 3) (VI 3) .unset []) _
    refine XS.aload X58.here hx rfl (B at_284) rfl rfl ?_
    refine XS.aload X58.here hx rfl (B at_286) rfl rfl ?_
    refine XS.iload X58.here hx rfl (B at_288) rfl ?_
    refine XS.iconst X58.here hx rfl (B at_290) ?_
    refine XS.isub X58.here hx rfl (B at_291) rfl ?_
    refine XS.iload X58.here hx rfl (B at_292) rfl ?_
    refine st61 _ ?_
    show GO p e below T61 (FL m x0 x1 x2 x3 x4 x5 297 (VI 3) (VR b3) (VR b6) (VI 3) (VI 3) .unset []) _
    refine XS.iload X61.here hx rfl (B at_297) rfl ?_
    refine XS.bipush X61.here hx rfl (B at_299) ?_
    refine XS.icmpYes X61.here hx rfl (pc0 := 301) (pc' := 335) rfl (B at_301) rfl (flt (by decide : ¬ ((60 : Int32) < (3 : Int32)))).2.2.2 (by decide) (by decide) ?_
    show GO p e below T61 (FL m x0 x1 x2 x3 x4 x5 335 (VI 3) (VR b3) (VR b6) (VI 3) (VI 3) .unset []) _
    refine XS.aload X61.here hx rfl (B at_335) rfl rfl ?_
    refine XS.iload X61.here hx rfl (B at_337) rfl ?_
    refine XS.iconst X61.here hx rfl (B at_339) ?_
    refine XS.iadd X61.here hx rfl (B at_340) rfl ?_
    refine XS.bipush X61.here hx rfl (B at_341) ?_
    refine st67 _ ?_
    show GO p e below T67 (FL m x0 x1 x2 x3 x4 x5 344 (VI 3) (VR b3) (VR b6) (VI 3) (VI 3) .unset []) _
    refine st72 _ ?_
    show GO p e below T72 (FL m x0 x1 x2 x3 x4 x5 347 (VI 3) (VR b3) (VR b6) (VI 3) (VI 3) .unset [(.ref b72)]) _
    refine XS.dup X72.here hx rfl (B at_347) rfl rfl ?_
    refine XS.aload X72.here hx rfl (B at_348) rfl rfl ?_
    refine st76.trans ?_
    show GO p e below T76 (FL m x0 x1 x2 x3 x4 x5 353 (VI 3) (VR b3) (VR b6) (VI 3) (VI 3) .unset [(.ref b72)]) _
    refine st80.trans ?_
    show GO p e below T80 (FL m x0 x1 x2 x3 x4 x5 356 (VI 3) (VR b3) (VR b6) (VI 3) (VI 3) .unset [(.ref qb80)]) _
    refine XS.astore X80.here hx rfl (B at_356) rfl rfl (l' := #[.val (.int x0), .val (.int x1), .val (.int x2), .val (.int x3), .val (.int x4), .val (.int x5), .val (.int (3 : Int32)), .val (.ref b3), .val (.ref b6), .val (.int (3 : Int32)), .val (.int (3 : Int32)), .val (.ref qb80)]) rfl ?_
    refine XS.aload X80.here hx rfl (B at_358) rfl rfl ?_
    refine st90 _ ?_
    show GO p e below T90 (FL m x0 x1 x2 x3 x4 x5 363 (VI 3) (VR b3) (VR b6) (VI 3) (VI 3) (VR qb80) [(.ref b90), (.ref qb80)]) _
    refine XS.dup X90.here hx rfl (B at_363) rfl rfl ?_
    refine XS.aload X90.here hx rfl (B at_364) rfl rfl ?_
    refine st94.trans ?_
    show GO p e below T94 (FL m x0 x1 x2 x3 x4 x5 369 (VI 3) (VR b3) (VR b6) (VI 3) (VI 3) (VR qb80) [(.ref b90), (.ref qb80)]) _
    refine st102.trans ?_
    show GO p e below T102 (FL m x0 x1 x2 x3 x4 x5 372 (VI 3) (VR b3) (VR b6) (VI 3) (VI 3) (VR qb80) [(.int (if (qs cs29) = (List.set cs61 4 (34 : Int32)) then (1 : Int32) else (0 : Int32)))]) _
    exact kgo
  have pre105 : ∀ tgt, Steps p.tables e below (T102.setTop (FL m x0 x1 x2 x3 x4 x5 372 (VI 3) (VR b3) (VR b6) (VI 3) (VI 3) (VR qb80) [(.int 1)])) tgt → Steps p.tables e below (s₁.setTop (entryFrame m #[(.int x0), (.int x1), (.int x2), (.int x3), (.int x4), (.int x5)] maxLocals)) tgt := by
    have q := pre104
    rw [if_pos hAB] at q
    exact q
  obtain ⟨fs, hretL, hrun, hended, hEnd⟩ := Stand.leaveW X102 hS80 (by rw [eq102]; exact hk96) (v := some (.int (1 : Int32))) (fun h => by rw [Bd.returns] at h; cases h)
  have hCf : CHr Z EL0 s.vm s.heap T102.vm T102.heap := by rw [hh, eq102]; exact CH96.trans (CHv.at X102 hZ80 (own_EW hw) CH96.1)
  refine ⟨_, _, pre105 _ ?_, hrun, hended, _, _, rfl, ?_, hCf, hEnd.1, hEnd.2.1, hEnd.2.2.1, hEnd.2.2.2.mono (by decide) (by decide)⟩
  · exact retOut X102 hx Bd.returns rfl (Or.inl ⟨rfl, Or.inr (Or.inl rfl), _, rfl⟩) (B at_372) hretL
  · show Q_rm0k3 Z x0 x1 x2 x3 x4 x5 G1 fm h0 n0 _ T102.heap _
    rw [eq102]
    exact ⟨rfl, N103⟩
def Q_rm0k4 (Z : State) (x0 : Int32) (x1 : Int32) (x2 : Int32) (x3 : Int32) (x4 : Int32) (x5 : Int32) (G1 : Int32) (fm : Value) (h0 : Heap) (n0 : Nat) (v : Option Value) (h : Heap) (L : List Loc) : Prop := v = some (.int (1 : Int32)) ∧ Fr n0 L
set_option maxRecDepth 65536 in
set_option maxHeartbeats 40000000 in
theorem rm0k4 (l : Launch) (Z : State) (a0 : Array Value) (hw : HW a0 Z) (ws : List Jvm.Cond) (x0 : Int32) (x1 : Int32) (x2 : Int32) (x3 : Int32) (x4 : Int32) (x5 : Int32) (G1 : Int32) (fm : Value) (h0 : Heap) (n0 : Nat) (O0 : Old Z n0 h0) (hkc : (x5 &&& (7 : Int32)) = (4 : Int32)) (O2 : Sta Z Z.heap "java/lang/String" "COMPACT_STRINGS" "Z" (.int G1)) (P5 : ¬ (G1 = (0 : Int32))) (O4 : Sta Z Z.heap "jdk/internal/util/Preconditions" "SIOOBE_FORMATTER" "Ljava/util/function/BiFunction;" fm) (rf : fm.isRef = true) :
    MetFree l x (head1 (Jvm.Cond.code x code maxLocals ret :: ws) room_1) (fun aa U => aa = #[(.int x0), (.int x1), (.int x2), (.int x3), (.int x4), (.int x5)] ∧ Z.Warmed39 U.vm ∧ U.heap = h0 ∧ CHv Z EL0 U.vm h0) (fun _ _ _ _ _ => True) (fun _ U o U' => ∃ v L, o = .returned v ∧ Q_rm0k4 Z x0 x1 x2 x3 x4 x5 G1 fm h0 n0 v U'.heap L ∧ CHr Z EL0 U.vm U.heap U'.vm U'.heap ∧ ReturnedEndW U o U' L 26 1745) := by
  refine MetFree.of_bodySF (plainFor_of_name pn8) hisR ?_
  intro p e s m args below meth c s₁ Bd hml0 hP hK
  obtain ⟨rfl, hZ, hh, hCH⟩ := hP
  have hx := Bd.exec
  have hby := Bd.bytes
  have B := fun {pc : Nat} {r} (h : decode code pc = r) => hb hby h
  have hml : c.maxLocals = 12 := hml0
  have hown : s.vm.findClass "com/example/atropos/atropos/io/CurveTextQuotePinLaw" = some m.cls := findClass_of_methodNamed Bd.named
  have hnm := (name_of_methodNamed Bd.named Bd.method).1
  have X0 : Stand p l e room_1 (s.setVm s.vm) m #[(.int x0), (.int x1), (.int x2), (.int x3), (.int x4), (.int x5)] below meth c s₁ [] 0 0 := Stand.of_body Bd
  have e0 : s₁.heap = h0 := by rw [← hh, Bd.state]; rfl
  have N0 := Fr.nil n0
  have pre0 : ∀ tgt, Steps p.tables e below (s₁.setTop (mkF m 0 #[.val (.int x0), .val (.int x1), .val (.int x2), .val (.int x3), .val (.int x4), .val (.int x5), .unset, .unset, .unset, .unset, .unset, .unset] [])) tgt → Steps p.tables e below (s₁.setTop (entryFrame m #[(.int x0), (.int x1), (.int x2), (.int x3), (.int x4), (.int x5)] maxLocals)) tgt := fun tgt kgo => castTop (ef_rm0k0 m x0 x1 x2 x3 x4 x5) kgo
  have hS0 : s.Since s.vm 0 := (State.WarmedH.refl s).since 0
  have hk0 : 0 ≤ h0.size := Nat.zero_le _
  have CH0 : CHr Z EL0 s.vm h0 s.vm h0 := CHr.refl hCH
  have pre1 : ∀ tgt, Steps p.tables e below (s₁.setTop (FL m x0 x1 x2 x3 x4 x5 7 (VI (x5 &&& (7 : Int32))) .unset .unset .unset .unset .unset [])) tgt → Steps p.tables e below (s₁.setTop (entryFrame m #[(.int x0), (.int x1), (.int x2), (.int x3), (.int x4), (.int x5)] maxLocals)) tgt := by
    intro tgt kgo
    refine pre0 _ ?_
    refine XS.iload X0.here hx rfl (B at_0) rfl ?_
    refine XS.bipush X0.here hx rfl (B at_2) ?_
    refine XS.iand X0.here hx rfl (B at_4) rfl ?_
    refine XS.istore X0.here hx rfl (B at_5) rfl (l' := #[.val (.int x0), .val (.int x1), .val (.int x2), .val (.int x3), .val (.int x4), .val (.int x5), .val (.int (x5 &&& (7 : Int32))), .unset, .unset, .unset, .unset, .unset]) rfl ?_
    exact kgo
  have pre2 : ∀ tgt, Steps p.tables e below (s₁.setTop (FL m x0 x1 x2 x3 x4 x5 7 (VI 4) .unset .unset .unset .unset .unset [])) tgt → Steps p.tables e below (s₁.setTop (entryFrame m #[(.int x0), (.int x1), (.int x2), (.int x3), (.int x4), (.int x5)] maxLocals)) tgt := by
    have q := pre1
    rw [hkc] at q
    exact q
  obtain ⟨T3, h3, k3, X3, e3, E3, A3, st3⟩ := newP (aty := .char) X0 hx hZ (ow0 hw) e0 (g := (FL m x0 x1 x2 x3 x4 x5 90 (VI 4) .unset .unset .unset .unset .unset [(.int 59)])) rfl (B at_90) rfl (by decide) (cap := 59) (by decide) (by decide) (by decide) (by decide)
  obtain ⟨b3, g3⟩ : ∃ z, z = h0.size := ⟨_, rfl⟩
  rw [← g3] at A3 st3
  have V3 : Arv Z h3 b3 k3 .char (59 : Int32) (List.replicate 59 (.int (0 : Int32))) (.int (0 : Int32)) := (Arv.new A3 (by decide)).pad (pad_rep [] (.int (0 : Int32)) 59)
  have gn3 : n0 ≤ b3 := Nat.le_trans (own_sz O0) (Nat.le_of_eq g3.symm)
  have Y3 := Safe.ext E3 CH0.1 (Safe.new (x := b3) (Nat.le_of_eq g3.symm))
  have CH4 := CH0.trans (CHr.ext E3 CH0.1)
  have hk4 := Nat.le_trans hk0 E3.1
  have Ol5 := O0.ext E3
  obtain ⟨T6, h6, k6, X6, e6, E6, A6, st6⟩ := newP (aty := .char) X3 hx hZ (ow0 hw) e3 (g := (FL m x0 x1 x2 x3 x4 x5 96 (VI 4) (VR b3) .unset .unset .unset .unset [(.int 61)])) rfl (B at_96) rfl (by decide) (cap := 61) (by decide) (by decide) (by decide) (by decide)
  obtain ⟨b6, g6⟩ : ∃ z, z = h3.size := ⟨_, rfl⟩
  rw [← g6] at A6 st6
  have V6 : Arv Z h6 b6 k6 .char (61 : Int32) (List.replicate 61 (.int (0 : Int32))) (.int (0 : Int32)) := (Arv.new A6 (by decide)).pad (pad_rep [] (.int (0 : Int32)) 61)
  have gn6 : n0 ≤ b6 := Nat.le_trans (own_sz Ol5) (Nat.le_of_eq g6.symm)
  have neb3_6 : b3 ≠ b6 := Nat.ne_of_lt (Nat.lt_of_lt_of_le V3.lt (Nat.le_of_eq g6.symm))
  have Y6 := Safe.ext E6 CH4.1 (Safe.new (x := b6) (Nat.le_of_eq g6.symm))
  have CH7 := CH4.trans (CHr.ext E6 CH4.1)
  have hk7 := Nat.le_trans hk4 E6.1
  have Ol8 := Ol5.ext E6
  have f10 := (V3.ext E6)
  have Vm9 : Arv Z h6 b3 k3 .char (59 : Int32) (List.map Value.int (List.replicate 59 (0 : Int32))) (.int (0 : Int32)) := by have q := f10; rw [List.map_replicate]; exact q
  have Vm11 : Arv Z h6 b6 k6 .char (61 : Int32) (List.map Value.int (List.replicate 61 (0 : Int32))) (.int (0 : Int32)) := by have q := V6; rw [List.map_replicate]; exact q
  obtain ⟨cl12, Ar12, q12, S12, M12, H12, G12⟩ := id Vm9
  obtain ⟨_, _, ⟨T13, L13, k13, n13⟩, -, X13, ⟨Lc13, hQ13, l13, y13, z13⟩, st13⟩ := Jvm.LawKit.callS X6 hx (y := my34) hown (mvT hZ (ow1 hw)) (mvT hZ (ow2 hw)) (mvT hZ (ow3 hw)) (mvT hZ (ow4 hw)) (by decide) (backOf (W := 0) (rmpi l Z a0 hw [] b3 (0 : Int32) x0 k3 (List.replicate 59 (0 : Int32)) 0 59 h6 n0 Ol8 Vm9 (by simp only [List.length_replicate]) rfl (by decide) (by decide) gn3) hZ (ow4 hw) (ow3 hw) (by decide) (by decide)) (g := (FL m x0 x1 x2 x3 x4 x5 167 (VI 4) (VR b3) (VR b6) (VI 59) .unset .unset [(.int x0), (.int 0), (.ref b3)])) rfl (by rw [hml]; rfl) (argsL := [(.ref b3), (.int 0), (.int x0)]) (rest := []) (lenOf pd26 rfl) rfl (w0 rfl rfl) (B at_167) (fun _ _ => ⟨rfl, e6, (by decide : 2 + 0 ≤ _), (by decide : 120 + 0 ≤ _)⟩)
  dsimp only [Pt.U, Pt.locs, Pt.cells, Pt.slots] at X13 l13 y13 z13 st13 hQ13
  rw [l13, y13, z13] at X13
  obtain ⟨rfl, Nq13, kp13, na13⟩ := hQ13
  have N14 := Fr.app N0 Nq13
  have f15 := (Safe.ext E6 CH4.1 Y3)
  have CH16 := CH7.trans (CHr.keep kp13 (sfS f15 sf0) CH7.1)
  have hk16 := Nat.le_trans hk7 kp13.1
  have Ol17 := Ol8.keep kp13 (allS gn3 all0)
  obtain ⟨cs13, hcs13⟩ : ∃ z, z = List.set (List.replicate 59 (0 : Int32)) 0 (x0 &&& (255 : Int32)) := ⟨_, rfl⟩
  rw [← hcs13] at na13
  have lc13 : List.length cs13 = 59 := by rw [hcs13, List.length_set]; exact (by simp only [List.length_replicate])
  have bc13 : Byt cs13 := by rw [hcs13]; exact own_setb (own_rep0 59) 0 (own_a255 _)
  obtain ⟨_, _, ⟨T18, L18, k18, n18⟩, -, X18, ⟨Lc18, hQ18, l18, y18, z18⟩, st18⟩ := Jvm.LawKit.callS X13 hx (y := my34) hown (mvT hZ (ow1 hw)) (mvT hZ (ow2 hw)) (mvT hZ (ow3 hw)) (mvT hZ (ow4 hw)) (by decide) (backOf (W := 0) (rmpi l Z a0 hw [] b3 (1 : Int32) x1 k3 cs13 1 59 T13.heap n0 Ol17 na13 lc13 rfl (by decide) (by decide) gn3) hZ (ow4 hw) (ow3 hw) (by decide) (by decide)) (g := (FL m x0 x1 x2 x3 x4 x5 174 (VI 4) (VR b3) (VR b6) (VI 59) .unset .unset [(.int x1), (.int 1), (.ref b3)])) rfl (by rw [hml]; rfl) (argsL := [(.ref b3), (.int 1), (.int x1)]) (rest := []) (lenOf pd26 rfl) rfl (w0 rfl rfl) (B at_174) (fun _ _ => ⟨rfl, rfl, (by decide : 2 + 0 ≤ _), (by decide : 120 + 0 ≤ _)⟩)
  dsimp only [Pt.U, Pt.locs, Pt.cells, Pt.slots] at X18 l18 y18 z18 st18 hQ18
  rw [l18, y18, z18] at X18
  obtain ⟨rfl, Nq18, kp18, na18⟩ := hQ18
  have N19 := Fr.app N14 Nq18
  have f20 := (Safe.keep kp13 (sfS f15 sf0) CH7.1 f15)
  have CH21 := CH16.trans (CHr.keep kp18 (sfS f20 sf0) CH16.1)
  have hk21 := Nat.le_trans hk16 kp18.1
  have Ol22 := Ol17.keep kp18 (allS gn3 all0)
  obtain ⟨cs18, hcs18⟩ : ∃ z, z = List.set cs13 1 (x1 &&& (255 : Int32)) := ⟨_, rfl⟩
  rw [← hcs18] at na18
  have lc18 : List.length cs18 = 59 := by rw [hcs18, List.length_set]; exact lc13
  have bc18 : Byt cs18 := by rw [hcs18]; exact own_setb bc13 1 (own_a255 _)
  obtain ⟨_, _, ⟨T23, L23, k23, n23⟩, -, X23, ⟨Lc23, hQ23, l23, y23, z23⟩, st23⟩ := Jvm.LawKit.callS X18 hx (y := my34) hown (mvT hZ (ow1 hw)) (mvT hZ (ow2 hw)) (mvT hZ (ow3 hw)) (mvT hZ (ow4 hw)) (by decide) (backOf (W := 0) (rmpi l Z a0 hw [] b3 (58 : Int32) x2 k3 cs18 58 59 T18.heap n0 Ol22 na18 lc18 rfl (by decide) (by decide) gn3) hZ (ow4 hw) (ow3 hw) (by decide) (by decide)) (g := (FL m x0 x1 x2 x3 x4 x5 182 (VI 4) (VR b3) (VR b6) (VI 59) .unset .unset [(.int x2), (.int 58), (.ref b3)])) rfl (by rw [hml]; rfl) (argsL := [(.ref b3), (.int 58), (.int x2)]) (rest := []) (lenOf pd26 rfl) rfl (w0 rfl rfl) (B at_182) (fun _ _ => ⟨rfl, rfl, (by decide : 2 + 0 ≤ _), (by decide : 120 + 0 ≤ _)⟩)
  dsimp only [Pt.U, Pt.locs, Pt.cells, Pt.slots] at X23 l23 y23 z23 st23 hQ23
  rw [l23, y23, z23] at X23
  obtain ⟨rfl, Nq23, kp23, na23⟩ := hQ23
  have N24 := Fr.app N19 Nq23
  have f25 := (Safe.keep kp18 (sfS f20 sf0) CH16.1 f20)
  have CH26 := CH21.trans (CHr.keep kp23 (sfS f25 sf0) CH21.1)
  have hk26 := Nat.le_trans hk21 kp23.1
  have Ol27 := Ol22.keep kp23 (allS gn3 all0)
  obtain ⟨cs23, hcs23⟩ : ∃ z, z = List.set cs18 58 (x2 &&& (255 : Int32)) := ⟨_, rfl⟩
  rw [← hcs23] at na23
  have lc23 : List.length cs23 = 59 := by rw [hcs23, List.length_set]; exact lc18
  have bc23 : Byt cs23 := by rw [hcs23]; exact own_setb bc18 58 (own_a255 _)
  obtain ⟨_, _, ⟨T28, L28, k28, n28⟩, -, X28, ⟨Lc28, hQ28, l28, y28, z28⟩, st28⟩ := Jvm.LawKit.callS X23 hx (y := my34) hown (mvT hZ (ow1 hw)) (mvT hZ (ow2 hw)) (mvT hZ (ow3 hw)) (mvT hZ (ow4 hw)) (by decide) (backOf (W := 0) (rmpo l Z a0 hw [] b3 (59 : Int32) x3 k3 _ (59 : Int32) T23.heap n0 Ol27 na23 (by decide)) hZ (ow4 hw) (ow3 hw) (by decide) (by decide)) (g := (FL m x0 x1 x2 x3 x4 x5 190 (VI 4) (VR b3) (VR b6) (VI 59) .unset .unset [(.int x3), (.int 59), (.ref b3)])) rfl (by rw [hml]; rfl) (argsL := [(.ref b3), (.int 59), (.int x3)]) (rest := []) (lenOf pd26 rfl) rfl (w0 rfl rfl) (B at_190) (fun _ _ => ⟨rfl, rfl, (by decide : 2 + 0 ≤ _), (by decide : 120 + 0 ≤ _)⟩)
  dsimp only [Pt.U, Pt.locs, Pt.cells, Pt.slots] at X28 l28 y28 z28 st28 hQ28
  rw [l28, y28, z28] at X28
  obtain ⟨rfl, Nq28, eq28⟩ := hQ28
  have N29 := Fr.app N24 Nq28
  obtain ⟨_, _, ⟨T30, L30, k30, n30⟩, -, X30, ⟨Lc30, hQ30, l30, y30, z30⟩, st30⟩ := Jvm.LawKit.callS X28 hx (y := my34) hown (mvT hZ (ow1 hw)) (mvT hZ (ow2 hw)) (mvT hZ (ow3 hw)) (mvT hZ (ow4 hw)) (by decide) (backOf (W := 0) (rmpo l Z a0 hw [] b3 (60 : Int32) x4 k3 _ (59 : Int32) T23.heap n0 Ol27 na23 (by decide)) hZ (ow4 hw) (ow3 hw) (by decide) (by decide)) (g := (FL m x0 x1 x2 x3 x4 x5 199 (VI 4) (VR b3) (VR b6) (VI 59) .unset .unset [(.int x4), (.int 60), (.ref b3)])) rfl (by rw [hml]; rfl) (argsL := [(.ref b3), (.int 60), (.int x4)]) (rest := []) (lenOf pd26 rfl) rfl (w0 rfl rfl) (B at_199) (fun _ _ => ⟨rfl, eq28, (by decide : 2 + 0 ≤ _), (by decide : 120 + 0 ≤ _)⟩)
  dsimp only [Pt.U, Pt.locs, Pt.cells, Pt.slots] at X30 l30 y30 z30 st30 hQ30
  rw [l30, y30, z30] at X30
  obtain ⟨rfl, Nq30, eq30⟩ := hQ30
  have N31 := Fr.app N29 Nq30
  obtain ⟨_, _, ⟨T32, L32, k32, n32⟩, -, X32, ⟨Lc32, hQ32, l32, y32, z32⟩, st32⟩ := Jvm.LawKit.callS X30 hx (y := my34) hown (mvT hZ (ow1 hw)) (mvT hZ (ow2 hw)) (mvT hZ (ow3 hw)) (mvT hZ (ow4 hw)) (by decide) (backOf (W := 0) (rmpi l Z a0 hw [] b3 (58 : Int32) ((x5.toUInt32 >>> ((8 : Int32) &&& 31).toUInt32).toInt32) k3 cs23 58 59 T23.heap n0 Ol27 na23 lc23 rfl (by decide) (by decide) gn3) hZ (ow4 hw) (ow3 hw) (by decide) (by decide)) (g := (FL m x0 x1 x2 x3 x4 x5 213 (VI 4) (VR b3) (VR b6) (VI 59) .unset .unset [(.int ((x5.toUInt32 >>> ((8 : Int32) &&& 31).toUInt32).toInt32)), (.int 58), (.ref b3)])) rfl (by rw [hml]; rfl) (argsL := [(.ref b3), (.int 58), (.int ((x5.toUInt32 >>> ((8 : Int32) &&& 31).toUInt32).toInt32))]) (rest := []) (lenOf pd26 rfl) rfl (w0 rfl rfl) (B at_213) (fun _ _ => ⟨rfl, eq30, (by decide : 2 + 0 ≤ _), (by decide : 120 + 0 ≤ _)⟩)
  dsimp only [Pt.U, Pt.locs, Pt.cells, Pt.slots] at X32 l32 y32 z32 st32 hQ32
  rw [l32, y32, z32] at X32
  obtain ⟨rfl, Nq32, kp32, na32⟩ := hQ32
  have N33 := Fr.app N31 Nq32
  have f34 := (Safe.keep kp23 (sfS f25 sf0) CH21.1 f25)
  have CH35 := CH26.trans (CHr.keep kp32 (sfS f34 sf0) CH26.1)
  have hk35 := Nat.le_trans hk26 kp32.1
  have Ol36 := Ol27.keep kp32 (allS gn3 all0)
  obtain ⟨cs32, hcs32⟩ : ∃ z, z = List.set cs23 58 (((x5.toUInt32 >>> ((8 : Int32) &&& 31).toUInt32).toInt32) &&& (255 : Int32)) := ⟨_, rfl⟩
  rw [← hcs32] at na32
  have lc32 : List.length cs32 = 59 := by rw [hcs32, List.length_set]; exact lc23
  have bc32 : Byt cs32 := by rw [hcs32]; exact own_setb bc23 58 (own_a255 _)
  obtain ⟨_, _, ⟨T37, L37, k37, n37⟩, -, X37, ⟨Lc37, hQ37, l37, y37, z37⟩, st37⟩ := Jvm.LawKit.callS X32 hx (y := my7) hown (mvT hZ (ow5 hw)) (mvT hZ (ow6 hw)) (mvT hZ (ow7 hw)) (mvT hZ (ow8 hw)) (by decide) (backOf (W := 0) (rmmin l Z a0 hw [] (59 : Int32) (60 : Int32)  T32.heap n0 Ol36 ) hZ (ow8 hw) (ow7 hw) (by decide) (by decide)) (g := (FL m x0 x1 x2 x3 x4 x5 220 (VI 4) (VR b3) (VR b6) (VI 59) .unset .unset [(.int 60), (.int 59)])) rfl (by rw [hml]; rfl) (argsL := [(.int 59), (.int 60)]) (rest := []) (lenOf pd2 rfl) rfl (w0 rfl rfl) (B at_220) (fun _ _ => ⟨rfl, rfl, (by decide : 2 + 0 ≤ _), (by decide : 120 + 0 ≤ _)⟩)
  dsimp only [Pt.U, Pt.locs, Pt.cells, Pt.slots] at X37 l37 y37 z37 st37 hQ37
  rw [l37, y37, z37] at X37
  obtain ⟨hv37, Nq37, eq37⟩ := hQ37
  obtain rfl := own_lit hv37 (y := (59 : Int32)) (by decide)
  have N38 := Fr.app N33 Nq37
  have f39 := ((((Vm11.keep kp13 (ninS (Ne.symm neb3_6) nin0)).keep kp18 (ninS (Ne.symm neb3_6) nin0)).keep kp23 (ninS (Ne.symm neb3_6) nin0)).keep kp32 (ninS (Ne.symm neb3_6) nin0))
  obtain ⟨cl40, Ar40, q40, S40, M40, H40, G40⟩ := id f39
  have hin40 : ¬ ((0 : Int32) < 0 ∨ cl40.slots.size ≤ ((0 : Int32)).toNatClampNeg) := inb_of S40 ⟨by decide, by decide⟩
  obtain ⟨T41, h41, X41, e41, W41, st41⟩ := stC X37 hx hZ eq37 Ar40 (j := (0 : Int32)) hin40 (g := (FL m x0 x1 x2 x3 x4 x5 230 (VI 4) (VR b3) (VR b6) (VI 59) (VI 59) .unset [(.int 34), (.int 0), (.ref b6)])) rfl rfl (B at_230)
  have V41 : Arv Z h41 b6 k6 .char (61 : Int32) (List.map Value.int (List.set (List.replicate 61 (0 : Int32)) 0 (34 : Int32))) (.int (0 : Int32)) := (by have q := (Arv.set Ar40 q40 S40 M40 H40 G40 (fits_nar_char _) W41 0 rfl (by rw [List.length_map, ((by simp only [List.length_replicate]) : List.length (List.replicate 61 (0 : Int32)) = 61)]; decide)); rw [show nar .char (34 : Int32) = 34 by decide] at q; rw [List.map_set]; exact q)
  have f42 := (Safe.keep kp32 (sfS f34 sf0) CH26.1 (Safe.keep kp23 (sfS f25 sf0) CH21.1 (Safe.keep kp18 (sfS f20 sf0) CH16.1 (Safe.keep kp13 (sfS f15 sf0) CH7.1 Y6))))
  have CH43 := CH35.trans (CHr.wr W41 f42 CH35.1)
  have hk43 := Nat.le_trans hk35 (Keep.of_wr W41).1
  have N44 := Fr.snoc X41 N38 gn6
  have Ol44 := Ol36.wr W41 gn6
  have f45 := (na32.other W41 neb3_6)
  obtain ⟨_, _, ⟨T46, L46, k46, n46⟩, -, X46, ⟨Lc46, hQ46, l46, y46, z46⟩, st46⟩ := Jvm.LawKit.callS X41 hx (y := my35) hown (mvT hZ (ow9 hw)) (mvT hZ (ow10 hw)) (mvT hZ (ow3 hw)) (mvT hZ (ow11 hw)) (by decide) (backOf (W := 0) (rmci l Z a0 hw [] b3 b6 (0 : Int32) (59 : Int32) k3 k6 cs32 (List.set (List.replicate 61 (0 : Int32)) 0 (34 : Int32)) 0 59 61 59 h41 n0 Ol44 f45 V41 (by rw [List.length_set]; exact (by simp only [List.length_replicate])) bc32 rfl rfl (by decide) (by decide) (by decide) (by decide) (by decide) gn6) hZ (ow11 hw) (ow3 hw) (by decide) (by decide)) (g := (FL m x0 x1 x2 x3 x4 x5 238 (VI 4) (VR b3) (VR b6) (VI 59) (VI 59) .unset [(.int 59), (.int 0), (.ref b6), (.ref b3)])) rfl (by rw [hml]; rfl) (argsL := [(.ref b3), (.ref b6), (.int 0), (.int 59)]) (rest := []) (lenOf pd27 rfl) rfl (w0 rfl rfl) (B at_238) (fun _ _ => ⟨rfl, e41, (by decide : 2 + 0 ≤ _), (by decide : 120 + 0 ≤ _)⟩)
  dsimp only [Pt.U, Pt.locs, Pt.cells, Pt.slots] at X46 l46 y46 z46 st46 hQ46
  rw [l46, y46, z46] at X46
  obtain ⟨rfl, Nq46, kp46, na46⟩ := hQ46
  have N47 := Fr.app N44 Nq46
  have f48 := (Safe.wr W41 f42 CH35.1 f42)
  have CH49 := CH43.trans (CHr.keep kp46 (sfS f48 sf0) CH43.1)
  have hk49 := Nat.le_trans hk43 kp46.1
  have Ol50 := Ol44.keep kp46 (allS gn6 all0)
  obtain ⟨cs46, hcs46⟩ : ∃ z, z = List.set (List.set (List.replicate 61 (0 : Int32)) 0 (34 : Int32)) (0 + 1) (List.getD cs32 0 0) := ⟨_, rfl⟩
  rw [← hcs46] at na46
  have lc46 : List.length cs46 = 61 := by rw [hcs46, List.length_set]; exact (by rw [List.length_set]; exact (by simp only [List.length_replicate]))
  have bc46 : Byt cs46 := by rw [hcs46]; exact own_setb (own_setb (own_rep0 61) 0 (by decide)) (0 + 1) (own_gdb bc32 0)
  have f51 := (f45.keep kp46 (ninS neb3_6 nin0))
  obtain ⟨_, _, ⟨T52, L52, k52, n52⟩, -, X52, ⟨Lc52, hQ52, l52, y52, z52⟩, st52⟩ := Jvm.LawKit.callS X46 hx (y := my35) hown (mvT hZ (ow9 hw)) (mvT hZ (ow10 hw)) (mvT hZ (ow3 hw)) (mvT hZ (ow11 hw)) (by decide) (backOf (W := 0) (rmci l Z a0 hw [] b3 b6 (1 : Int32) (59 : Int32) k3 k6 cs32 cs46 1 59 61 59 T46.heap n0 Ol50 f51 na46 lc46 bc32 rfl rfl (by decide) (by decide) (by decide) (by decide) (by decide) gn6) hZ (ow11 hw) (ow3 hw) (by decide) (by decide)) (g := (FL m x0 x1 x2 x3 x4 x5 248 (VI 4) (VR b3) (VR b6) (VI 59) (VI 59) .unset [(.int 59), (.int 1), (.ref b6), (.ref b3)])) rfl (by rw [hml]; rfl) (argsL := [(.ref b3), (.ref b6), (.int 1), (.int 59)]) (rest := []) (lenOf pd27 rfl) rfl (w0 rfl rfl) (B at_248) (fun _ _ => ⟨rfl, rfl, (by decide : 2 + 0 ≤ _), (by decide : 120 + 0 ≤ _)⟩)
  dsimp only [Pt.U, Pt.locs, Pt.cells, Pt.slots] at X52 l52 y52 z52 st52 hQ52
  rw [l52, y52, z52] at X52
  obtain ⟨rfl, Nq52, kp52, na52⟩ := hQ52
  have N53 := Fr.app N47 Nq52
  have f54 := (Safe.keep kp46 (sfS f48 sf0) CH43.1 f48)
  have CH55 := CH49.trans (CHr.keep kp52 (sfS f54 sf0) CH49.1)
  have hk55 := Nat.le_trans hk49 kp52.1
  have Ol56 := Ol50.keep kp52 (allS gn6 all0)
  obtain ⟨cs52, hcs52⟩ : ∃ z, z = List.set cs46 (1 + 1) (List.getD cs32 1 0) := ⟨_, rfl⟩
  rw [← hcs52] at na52
  have lc52 : List.length cs52 = 61 := by rw [hcs52, List.length_set]; exact lc46
  have bc52 : Byt cs52 := by rw [hcs52]; exact own_setb bc46 (1 + 1) (own_gdb bc32 1)
  have f57 := (f51.keep kp52 (ninS neb3_6 nin0))
  obtain ⟨_, _, ⟨T58, L58, k58, n58⟩, -, X58, ⟨Lc58, hQ58, l58, y58, z58⟩, st58⟩ := Jvm.LawKit.callS X52 hx (y := my35) hown (mvT hZ (ow9 hw)) (mvT hZ (ow10 hw)) (mvT hZ (ow3 hw)) (mvT hZ (ow11 hw)) (by decide) (backOf (W := 0) (rmci l Z a0 hw [] b3 b6 (58 : Int32) (59 : Int32) k3 k6 cs32 cs52 58 59 61 59 T52.heap n0 Ol56 f57 na52 lc52 bc32 rfl rfl (by decide) (by decide) (by decide) (by decide) (by decide) gn6) hZ (ow11 hw) (ow3 hw) (by decide) (by decide)) (g := (FL m x0 x1 x2 x3 x4 x5 259 (VI 4) (VR b3) (VR b6) (VI 59) (VI 59) .unset [(.int 59), (.int 58), (.ref b6), (.ref b3)])) rfl (by rw [hml]; rfl) (argsL := [(.ref b3), (.ref b6), (.int 58), (.int 59)]) (rest := []) (lenOf pd27 rfl) rfl (w0 rfl rfl) (B at_259) (fun _ _ => ⟨rfl, rfl, (by decide : 2 + 0 ≤ _), (by decide : 120 + 0 ≤ _)⟩)
  dsimp only [Pt.U, Pt.locs, Pt.cells, Pt.slots] at X58 l58 y58 z58 st58 hQ58
  rw [l58, y58, z58] at X58
  obtain ⟨rfl, Nq58, kp58, na58⟩ := hQ58
  have N59 := Fr.app N53 Nq58
  have f60 := (Safe.keep kp52 (sfS f54 sf0) CH49.1 f54)
  have CH61 := CH55.trans (CHr.keep kp58 (sfS f60 sf0) CH55.1)
  have hk61 := Nat.le_trans hk55 kp58.1
  have Ol62 := Ol56.keep kp58 (allS gn6 all0)
  obtain ⟨cs58, hcs58⟩ : ∃ z, z = List.set cs52 (58 + 1) (List.getD cs32 58 0) := ⟨_, rfl⟩
  rw [← hcs58] at na58
  have lc58 : List.length cs58 = 61 := by rw [hcs58, List.length_set]; exact lc52
  have bc58 : Byt cs58 := by rw [hcs58]; exact own_setb bc52 (58 + 1) (own_gdb bc32 58)
  obtain ⟨_, _, ⟨T63, L63, k63, n63⟩, -, X63, ⟨Lc63, hQ63, l63, y63, z63⟩, st63⟩ := Jvm.LawKit.callS X58 hx (y := my35) hown (mvT hZ (ow9 hw)) (mvT hZ (ow10 hw)) (mvT hZ (ow3 hw)) (mvT hZ (ow11 hw)) (by decide) (backOf (W := 0) (rmco l Z a0 hw [] b3 b6 (59 : Int32) (59 : Int32)  T58.heap n0 Ol62 (by decide)) hZ (ow11 hw) (ow3 hw) (by decide) (by decide)) (g := (FL m x0 x1 x2 x3 x4 x5 270 (VI 4) (VR b3) (VR b6) (VI 59) (VI 59) .unset [(.int 59), (.int 59), (.ref b6), (.ref b3)])) rfl (by rw [hml]; rfl) (argsL := [(.ref b3), (.ref b6), (.int 59), (.int 59)]) (rest := []) (lenOf pd27 rfl) rfl (w0 rfl rfl) (B at_270) (fun _ _ => ⟨rfl, rfl, (by decide : 2 + 0 ≤ _), (by decide : 120 + 0 ≤ _)⟩)
  dsimp only [Pt.U, Pt.locs, Pt.cells, Pt.slots] at X63 l63 y63 z63 st63 hQ63
  rw [l63, y63, z63] at X63
  obtain ⟨rfl, Nq63, eq63⟩ := hQ63
  have N64 := Fr.app N59 Nq63
  obtain ⟨_, _, ⟨T65, L65, k65, n65⟩, -, X65, ⟨Lc65, hQ65, l65, y65, z65⟩, st65⟩ := Jvm.LawKit.callS X63 hx (y := my35) hown (mvT hZ (ow9 hw)) (mvT hZ (ow10 hw)) (mvT hZ (ow3 hw)) (mvT hZ (ow11 hw)) (by decide) (backOf (W := 0) (rmco l Z a0 hw [] b3 b6 (60 : Int32) (59 : Int32)  T58.heap n0 Ol62 (by decide)) hZ (ow11 hw) (ow3 hw) (by decide) (by decide)) (g := (FL m x0 x1 x2 x3 x4 x5 281 (VI 4) (VR b3) (VR b6) (VI 59) (VI 59) .unset [(.int 59), (.int 60), (.ref b6), (.ref b3)])) rfl (by rw [hml]; rfl) (argsL := [(.ref b3), (.ref b6), (.int 60), (.int 59)]) (rest := []) (lenOf pd27 rfl) rfl (w0 rfl rfl) (B at_281) (fun _ _ => ⟨rfl, eq63, (by decide : 2 + 0 ≤ _), (by decide : 120 + 0 ≤ _)⟩)
  dsimp only [Pt.U, Pt.locs, Pt.cells, Pt.slots] at X65 l65 y65 z65 st65 hQ65
  rw [l65, y65, z65] at X65
  obtain ⟨rfl, Nq65, eq65⟩ := hQ65
  have N66 := Fr.app N64 Nq65
  have f67 := (f57.keep kp58 (ninS neb3_6 nin0))
  obtain ⟨_, _, ⟨T68, L68, k68, n68⟩, -, X68, ⟨Lc68, hQ68, l68, y68, z68⟩, st68⟩ := Jvm.LawKit.callS X65 hx (y := my35) hown (mvT hZ (ow9 hw)) (mvT hZ (ow10 hw)) (mvT hZ (ow3 hw)) (mvT hZ (ow11 hw)) (by decide) (backOf (W := 0) (rmci l Z a0 hw [] b3 b6 (58 : Int32) (59 : Int32) k3 k6 cs32 cs58 58 59 61 59 T58.heap n0 Ol62 f67 na58 lc58 bc32 rfl rfl (by decide) (by decide) (by decide) (by decide) (by decide) gn6) hZ (ow11 hw) (ow3 hw) (by decide) (by decide)) (g := (FL m x0 x1 x2 x3 x4 x5 294 (VI 4) (VR b3) (VR b6) (VI 59) (VI 59) .unset [(.int 59), (.int 58), (.ref b6), (.ref b3)])) rfl (by rw [hml]; rfl) (argsL := [(.ref b3), (.ref b6), (.int 58), (.int 59)]) (rest := []) (lenOf pd27 rfl) rfl (w0 rfl rfl) (B at_294) (fun _ _ => ⟨rfl, eq65, (by decide : 2 + 0 ≤ _), (by decide : 120 + 0 ≤ _)⟩)
  dsimp only [Pt.U, Pt.locs, Pt.cells, Pt.slots] at X68 l68 y68 z68 st68 hQ68
  rw [l68, y68, z68] at X68
  obtain ⟨rfl, Nq68, kp68, na68⟩ := hQ68
  have N69 := Fr.app N66 Nq68
  have f70 := (Safe.keep kp58 (sfS f60 sf0) CH55.1 f60)
  have CH71 := CH61.trans (CHr.keep kp68 (sfS f70 sf0) CH61.1)
  have hk71 := Nat.le_trans hk61 kp68.1
  have Ol72 := Ol62.keep kp68 (allS gn6 all0)
  obtain ⟨cs68, hcs68⟩ : ∃ z, z = List.set cs58 (58 + 1) (List.getD cs32 58 0) := ⟨_, rfl⟩
  rw [← hcs68] at na68
  have lc68 : List.length cs68 = 61 := by rw [hcs68, List.length_set]; exact lc58
  have bc68 : Byt cs68 := by rw [hcs68]; exact own_setb bc58 (58 + 1) (own_gdb bc32 58)
  obtain ⟨cl73, Ar73, q73, S73, M73, H73, G73⟩ := id na68
  have hin73 : ¬ ((60 : Int32) < 0 ∨ cl73.slots.size ≤ ((60 : Int32)).toNatClampNeg) := inb_of S73 ⟨by decide, by decide⟩
  obtain ⟨T74, h74, X74, e74, W74, st74⟩ := stC X68 hx hZ rfl Ar73 (j := (60 : Int32)) hin73 (g := (FL m x0 x1 x2 x3 x4 x5 343 (VI 4) (VR b3) (VR b6) (VI 59) (VI 59) .unset [(.int 34), (.int 60), (.ref b6)])) rfl rfl (B at_343)
  have V74 : Arv Z h74 b6 k6 .char (61 : Int32) (List.map Value.int (List.set cs68 60 (34 : Int32))) (.int (0 : Int32)) := (by have q := (Arv.set Ar73 q73 S73 M73 H73 G73 (fits_nar_char _) W74 60 rfl (by rw [List.length_map, (lc68 : List.length cs68 = 61)]; decide)); rw [show nar .char (34 : Int32) = 34 by decide] at q; rw [List.map_set]; exact q)
  have f75 := (Safe.keep kp68 (sfS f70 sf0) CH61.1 f70)
  have CH76 := CH71.trans (CHr.wr W74 f75 CH71.1)
  have hk76 := Nat.le_trans hk71 (Keep.of_wr W74).1
  have N77 := Fr.snoc X74 N69 gn6
  have Ol77 := Ol72.wr W74 gn6
  have f78 := ((f67.keep kp68 (ninS neb3_6 nin0)).other W74 neb3_6)
  obtain ⟨T79, h79, X79, e79, E79, A79, D79, U79, st79⟩ := newO X74 hx hZ hown (ow12 hw) (ow13 hw) (ow14 hw) e74 (g := (FL m x0 x1 x2 x3 x4 x5 344 (VI 4) (VR b3) (VR b6) (VI 59) (VI 59) .unset [])) rfl (B at_344) (by decide) (by decide)
  obtain ⟨b79, g79⟩ : ∃ z, z = h74.size := ⟨_, rfl⟩
  rw [← g79] at A79 D79 U79 st79
  have gn79 : n0 ≤ b79 := Nat.le_trans (own_sz Ol77) (Nat.le_of_eq g79.symm)
  have neb3_79 : b3 ≠ b79 := Nat.ne_of_lt (Nat.lt_of_lt_of_le f78.lt (Nat.le_of_eq g79.symm))
  have neb6_79 : b6 ≠ b79 := Nat.ne_of_lt (Nat.lt_of_lt_of_le V74.lt (Nat.le_of_eq g79.symm))
  have Y79 := Safe.ext E79 CH76.1 (Safe.new (x := b79) (Nat.le_of_eq g79.symm))
  have CH80 := CH76.trans (CHr.ext E79 CH76.1)
  have hk80 := Nat.le_trans hk76 E79.1
  have Ol81 := Ol77.ext E79
  have Fcoder_79 : Fld Z h79 b79 "java/lang/String" "coder" "B" (.int (0 : Int32)) := D79 (Or.inr (ow38 hw)) (ty := .byte) (by decide)
  have Fvalue_79 : Fld Z h79 b79 "java/lang/String" "value" "[B" .null := D79 (Or.inr (ow40 hw)) (ty := (.array .byte)) (by decide)
  have f82 := (f78.ext E79)
  obtain ⟨_, _, ⟨T83, L83, k83, n83⟩, -, X83, ⟨Lc83, hQ83, l83, y83, z83⟩, st83⟩ := X79.specialBack hx (y := my1) rfl hown (mvT hZ (ow15 hw)) (mvT hZ (ow16 hw)) (mvT hZ (ow17 hw)) (by decide) (StrChars.Road.backV (W := 1) hZ (own_ws hw) (kI := 4) (ow13 hw) (cs := cs32) (bs := List.map (fun c => c.toInt8.toInt32) cs32) (n := 59) gn79 (own_sz Ol81) A79 Fvalue_79 Fcoder_79 f82 (O2.ext Ol81.2) P5 lc32 rfl (by decide) (by decide) bc32 rfl (by decide) (by decide)) (g := (FL m x0 x1 x2 x3 x4 x5 350 (VI 4) (VR b3) (VR b6) (VI 59) (VI 59) .unset [(.ref b3), (.ref b79), (.ref b79)])) rfl (by rw [hml]; rfl) (Steps.refl _) (a := b79) (argsL := [(.ref b3)]) (rest := [(.ref b79)]) (lenOf pd28 rfl) rfl (w0 rfl rfl) (B at_350) (fun _ _ => ⟨rfl, e79, (by decide : 3 + 1 ≤ _), (by decide : 124 + 59 ≤ _)⟩)
  dsimp only [Pt.U, Pt.locs, Pt.cells, Pt.slots] at X83 l83 y83 z83 st83 hQ83
  rw [l83, y83, z83] at X83
  obtain ⟨rfl, Nq83, kp83, sE83, sC83, t83, k83_, -, -, -, sV83, sA83⟩ := hQ83
  have ln83 : List.length cs32 = 59 := lc32
  have Sp83 : StrP Z _ b79 cs32 := ⟨sE83, sC83, bc32, (by rw [ln83]; decide), t83, k83_, sV83, (by rw [ln83]; exact sA83)⟩
  have N84 := Fr.app N77 Nq83
  have CH85 := CH80.trans (CHr.keep kp83 (sfS Y79 sf0) CH80.1)
  have hk85 := Nat.le_trans hk80 kp83.1
  have Ol86 := Ol81.keep kp83 (allS gn79 all0)
  obtain ⟨sEI, sCI, spI, slI, tI, skI, sVI, sAI⟩ := id Sp83
  obtain ⟨_, _, ⟨T87, L87, k87, n87⟩, -, Xr87, hSr87, hgr87, ⟨Lc87, hQ87, l87, y87, z87, CR87⟩, st87⟩ := callSS X83 hx (y := my33) hown (mvT hZ (ow41 hw)) (mvT hZ (ow42 hw)) (mvT hZ (ow43 hw)) (mvT hZ (ow44 hw)) (by decide) (backOfSH (W := 0) (rmqb l Z a0 hw [] b79 cs32 G1 fm T83.heap n0 Ol86 O2 P5 O4 rf ⟨sEI, sCI, spI, slI, tI, skI, sVI, sAI⟩ (by rw [lc32]; decide) (by rw [lc32]; decide)) hZ (ow44 hw) (ow43 hw) (by decide) (by decide) (own_EW hw) CH85.1) (g := (FL m x0 x1 x2 x3 x4 x5 353 (VI 4) (VR b3) (VR b6) (VI 59) (VI 59) .unset [(.ref b79)])) rfl (by rw [hml]; rfl) (argsL := [(.ref b79)]) (rest := []) (lenOf pd29 rfl) rfl (w0 rfl rfl) (B at_353) (fun _ _ => ⟨rfl, rfl, (by decide : 4 + 10 ≤ _), (by decide : 183 + 705 ≤ _)⟩)
  dsimp only [Pt.U, Pt.locs, Pt.cells, Pt.slots] at Xr87 hSr87 hgr87 l87 y87 z87 CR87 st87 hQ87
  rw [l87, y87, z87] at Xr87
  obtain ⟨X87, hS87, hZ87, hown87⟩ := rebS hS0 hk85 Xr87 hSr87 hgr87 hZ hown
  have hk87 : T87.heap.size ≤ T87.heap.size := Nat.le_refl _
  obtain ⟨qb87, rfl, Nq87, kp87, Sq87⟩ := hQ87
  have N88 := Fr.app N84 Nq87
  have f89 := (f82.keep kp83 (ninS neb3_79 nin0))
  have f90 := ((V74.ext E79).keep kp83 (ninS neb6_79 nin0))
  have CH91 := CH85.trans CR87
  have Ol92 := Ol86.keep kp87 all0
  obtain ⟨sEQ, sCQ, spQ, slQ, tQ, skQ, sVQ, sAQ⟩ := id Sq87
  have f93 := (f89.keep kp87 nin0)
  have f94 := (f90.keep kp87 nin0)
  have f95 := (sEI.keep kp87)
  have f96 := (sAI.keep kp87 nin0)
  obtain ⟨T97, h97, X97, e97, E97, A97, D97, U97, st97⟩ := newO X87 hx hZ87 hown87 (ow12 hw) (ow13 hw) (ow14 hw) rfl (g := (FL m x0 x1 x2 x3 x4 x5 360 (VI 4) (VR b3) (VR b6) (VI 59) (VI 59) (VR qb87) [(.ref qb87)])) rfl (B at_360) (by decide) (by decide)
  obtain ⟨b97, g97⟩ : ∃ z, z = T87.heap.size := ⟨_, rfl⟩
  rw [← g97] at A97 D97 U97 st97
  have gn97 : n0 ≤ b97 := Nat.le_trans (own_sz Ol92) (Nat.le_of_eq g97.symm)
  have neb3_97 : b3 ≠ b97 := Nat.ne_of_lt (Nat.lt_of_lt_of_le f93.lt (Nat.le_of_eq g97.symm))
  have neb6_97 : b6 ≠ b97 := Nat.ne_of_lt (Nat.lt_of_lt_of_le f94.lt (Nat.le_of_eq g97.symm))
  have neb79_97 : b79 ≠ b97 := Nat.ne_of_lt (Nat.lt_of_lt_of_le f95.lt (Nat.le_of_eq g97.symm))
  have netI_97 : tI ≠ b97 := Nat.ne_of_lt (Nat.lt_of_lt_of_le f96.lt (Nat.le_of_eq g97.symm))
  have neqb87_97 : qb87 ≠ b97 := Nat.ne_of_lt (Nat.lt_of_lt_of_le sEQ.lt (Nat.le_of_eq g97.symm))
  have netQ_97 : tQ ≠ b97 := Nat.ne_of_lt (Nat.lt_of_lt_of_le sAQ.lt (Nat.le_of_eq g97.symm))
  have Y97 := Safe.ext E97 CH91.1 (Safe.new (x := b97) (Nat.le_of_eq g97.symm))
  have CH98 := CH91.trans (CHr.ext E97 CH91.1)
  have hk98 := Nat.le_trans hk87 E97.1
  have Ol99 := Ol92.ext E97
  have Fcoder_97 : Fld Z h97 b97 "java/lang/String" "coder" "B" (.int (0 : Int32)) := D97 (Or.inr (ow38 hw)) (ty := .byte) (by decide)
  have Fvalue_97 : Fld Z h97 b97 "java/lang/String" "value" "[B" .null := D97 (Or.inr (ow40 hw)) (ty := (.array .byte)) (by decide)
  have f100 := (f94.ext E97)
  obtain ⟨_, _, ⟨T101, L101, k101, n101⟩, -, X101, ⟨Lc101, hQ101, l101, y101, z101⟩, st101⟩ := X97.specialBack hx (y := my1) rfl hown87 (mvT hZ87 (ow15 hw)) (mvT hZ87 (ow16 hw)) (mvT hZ87 (ow17 hw)) (by decide) (StrChars.Road.backV (W := 2) hZ87 (own_ws hw) (kI := 4) (ow13 hw) (cs := (List.set cs68 60 (34 : Int32))) (bs := List.map (fun c => c.toInt8.toInt32) (List.set cs68 60 (34 : Int32))) (n := 61) gn97 (own_sz Ol99) A97 Fvalue_97 Fcoder_97 f100 (O2.ext Ol99.2) P5 (by rw [List.length_set]; exact lc68) rfl (by decide) (by decide) (own_setb bc68 60 (by decide)) rfl (by decide) (by decide)) (g := (FL m x0 x1 x2 x3 x4 x5 366 (VI 4) (VR b3) (VR b6) (VI 59) (VI 59) (VR qb87) [(.ref b6), (.ref b97), (.ref b97), (.ref qb87)])) rfl (by rw [hml]; rfl) (Steps.refl _) (a := b97) (argsL := [(.ref b6)]) (rest := [(.ref b97), (.ref qb87)]) (lenOf pd28 rfl) rfl (w0 rfl rfl) (B at_366) (fun _ _ => ⟨rfl, e97, (by decide : 15 + 1 ≤ _), (by decide : 892 + 61 ≤ _)⟩)
  dsimp only [Pt.U, Pt.locs, Pt.cells, Pt.slots] at X101 l101 y101 z101 st101 hQ101
  rw [l101, y101, z101] at X101
  obtain ⟨rfl, Nq101, kp101, sE101, sC101, t101, k101_, -, -, -, sV101, sA101⟩ := hQ101
  have ln101 : List.length (List.set cs68 60 (34 : Int32)) = 61 := (by rw [List.length_set]; exact lc68)
  have Sp101 : StrP Z _ b97 (List.set cs68 60 (34 : Int32)) := ⟨sE101, sC101, (own_setb bc68 60 (by decide)), (by rw [ln101]; decide), t101, k101_, sV101, (by rw [ln101]; exact sA101)⟩
  have N102 := Fr.app N88 Nq101
  have CH103 := CH98.trans (CHr.keep kp101 (sfS Y97 sf0) CH98.1)
  have hk103 := Nat.le_trans hk98 kp101.1
  have Ol104 := Ol99.keep kp101 (allS gn97 all0)
  obtain ⟨sEO, sCO, spO, slO, tO, skO, sVO, sAO⟩ := id Sp101
  have f105 := ((sEQ.ext E97).keep kp101)
  have f106 := ((sVQ.ext E97).keep kp101 (ninS neqb87_97 nin0))
  have f107 := ((sCQ.ext E97).keep kp101 (ninS neqb87_97 nin0))
  have f108 := ((sAQ.ext E97).keep kp101 (ninS netQ_97 nin0))
  obtain ⟨cq109, kq109, q109a, q109b, q109c⟩ := isOf hZ87 rfl f105
  obtain ⟨_, _, ⟨T109, L109, k109, n109⟩, -, X109, ⟨Lc109, hQ109, l109, y109, z109⟩, st109⟩ := X101.virtualBack hx (y := my36) (z := my36) hown87 (mvT hZ87 (ow156 hw)) (mvT hZ87 (ow157 hw)) (notFace_of_selects (args := #[]) (mvT hZ87 (ow159 hw))) (mvT hZ87 (ow159 hw)) (mvT hZ87 (ow158 hw)) (by decide) (StrChars.Road.eqW (W := 0) hZ87 (own_weq hw) (kI := 4) (ow13 hw) f105 f106 f107 f108 (StrChars.Road.codOf rfl (fun c hc => (spQ c hc).2)) (own_up _ spQ) slQ sEO sVO sCO sAO (StrChars.Road.codOf rfl (fun c hc => (spO c hc).2)) (own_up _ spO) slO (O2.ext Ol104.2) P5 (by decide) (by decide)) q109a q109c (g := (FL m x0 x1 x2 x3 x4 x5 369 (VI 4) (VR b3) (VR b6) (VI 59) (VI 59) (VR qb87) [(.ref b97), (.ref qb87)])) rfl (by rw [hml]; rfl) (Steps.refl _) (argsL := [(.ref b97)]) (rest := []) (lenOf pd30 rfl) rfl (w0 rfl rfl) (B at_369) (fun _ _ => ⟨rfl, rfl, (by decide : 16 + 0 ≤ _), (by decide : 953 + 0 ≤ _)⟩)
  dsimp only [Pt.U, Pt.locs, Pt.cells, Pt.slots] at X109 l109 y109 z109 st109 hQ109
  rw [l109, y109, z109] at X109
  obtain ⟨hor109, hL109, eq109⟩ := hQ109
  obtain rfl := own_eqv hor109
  have Nq109 := own_frn hL109 n0
  have N110 := Fr.app N102 Nq109
  have hAB : (qs cs32) = (List.set cs68 60 (34 : Int32)) := by rw [hcs68, hcs58, hcs52, hcs46, hcs32, hcs23, hcs18, hcs13]; rfl
  have pre111 : ∀ tgt, Steps p.tables e below (T109.setTop (FL m x0 x1 x2 x3 x4 x5 372 (VI 4) (VR b3) (VR b6) (VI 59) (VI 59) (VR qb87) [(.int (if (qs cs32) = (List.set cs68 60 (34 : Int32)) then (1 : Int32) else (0 : Int32)))])) tgt → Steps p.tables e below (s₁.setTop (entryFrame m #[(.int x0), (.int x1), (.int x2), (.int x3), (.int x4), (.int x5)] maxLocals)) tgt := by
    intro tgt kgo
    refine pre2 _ ?_
    refine XS.iload X0.here hx rfl (B at_7) rfl ?_
    refine XS.ifYes X0.here hx rfl (pc0 := 9) (pc' := 25) rfl (B at_9) rfl ((if0 _ _).trans (feq (by decide : ¬ ((4 : Int32) = (0 : Int32)))).2) (by decide) (by decide) ?_
    show GO p e below s₁ (FL m x0 x1 x2 x3 x4 x5 25 (VI 4) .unset .unset .unset .unset .unset []) _
    refine XS.iload X0.here hx rfl (B at_25) rfl ?_
    refine XS.iconst X0.here hx rfl (B at_27) ?_
    refine XS.icmpYes X0.here hx rfl (pc0 := 28) (pc' := 44) rfl (B at_28) rfl (feq (by decide : ¬ ((4 : Int32) = (1 : Int32)))).2 (by decide) (by decide) ?_
    show GO p e below s₁ (FL m x0 x1 x2 x3 x4 x5 44 (VI 4) .unset .unset .unset .unset .unset []) _
    refine XS.iload X0.here hx rfl (B at_44) rfl ?_
    refine XS.iconst X0.here hx rfl (B at_46) ?_
    refine XS.icmpYes X0.here hx rfl (pc0 := 47) (pc' := 63) rfl (B at_47) rfl (feq (by decide : ¬ ((4 : Int32) = (2 : Int32)))).2 (by decide) (by decide) ?_
    show GO p e below s₁ (FL m x0 x1 x2 x3 x4 x5 63 (VI 4) .unset .unset .unset .unset .unset []) _
    refine XS.iload X0.here hx rfl (B at_63) rfl ?_
    refine XS.iconst X0.here hx rfl (B at_65) ?_
    refine XS.icmpYes X0.here hx rfl (pc0 := 66) (pc' := 82) rfl (B at_66) rfl (feq (by decide : ¬ ((4 : Int32) = (3 : Int32)))).2 (by decide) (by decide) ?_
    show GO p e below s₁ (FL m x0 x1 x2 x3 x4 x5 82 (VI 4) .unset .unset .unset .unset .unset []) _
    refine XS.iload X0.here hx rfl (B at_82) rfl ?_
    refine XS.iconst X0.here hx rfl (B at_84) ?_
    refine XS.icmpNo X0.here hx rfl (B at_85) rfl (teq (by decide : (4 : Int32) = (4 : Int32))).2 ?_
    show GO p e below s₁ (FL m x0 x1 x2 x3 x4 x5 88 (VI 4) .unset .unset .unset .unset .unset []) _
    refine XS.bipush X0.here hx rfl (B at_88) ?_
    refine st3 _ ?_
    show GO p e below T3 (FL m x0 x1 x2 x3 x4 x5 92 (VI 4) .unset .unset .unset .unset .unset [(.ref b3)]) _
    refine XS.astore X3.here hx rfl (B at_92) rfl rfl (l' := #[.val (.int x0), .val (.int x1), .val (.int x2), .val (.int x3), .val (.int x4), .val (.int x5), .val (.int (4 : Int32)), .val (.ref b3), .unset, .unset, .unset, .unset]) rfl ?_
    refine XS.bipush X3.here hx rfl (B at_94) ?_
    refine st6 _ ?_
    show GO p e below T6 (FL m x0 x1 x2 x3 x4 x5 98 (VI 4) (VR b3) .unset .unset .unset .unset [(.ref b6)]) _
    refine XS.astore X6.here hx rfl (B at_98) rfl rfl (l' := #[.val (.int x0), .val (.int x1), .val (.int x2), .val (.int x3), .val (.int x4), .val (.int x5), .val (.int (4 : Int32)), .val (.ref b3), .val (.ref b6), .unset, .unset, .unset]) rfl ?_
    refine XS.goto X6.here hx rfl (pc0 := 100) (pc' := 158) rfl (B at_100) (by decide) (by decide) ?_
    refine XS.aload X6.here hx rfl (B at_158) rfl rfl ?_
    refine X6.arraylength hx (by rw [e6]; exact Ar12.1) (State.isArrayOf_alike hZ.alike Ar12.2.1) (g := (mkF m 160 #[.val (.int x0), .val (.int x1), .val (.int x2), .val (.int x3), .val (.int x4), .val (.int x5), .val (.int (4 : Int32)), .val (.ref b3), .val (.ref b6), .unset, .unset, .unset] [(.ref b3)])) rfl rfl (B at_160) _ ?_
    rw [len_of S12 M12]
    show GO p e below T6 (FL m x0 x1 x2 x3 x4 x5 161 (VI 4) (VR b3) (VR b6) .unset .unset .unset [(.int 59)]) _
    refine XS.istore X6.here hx rfl (B at_161) rfl (l' := #[.val (.int x0), .val (.int x1), .val (.int x2), .val (.int x3), .val (.int x4), .val (.int x5), .val (.int (4 : Int32)), .val (.ref b3), .val (.ref b6), .val (.int (59 : Int32)), .unset, .unset]) rfl ?_
    refine XS.aload X6.here hx rfl (B at_163) rfl rfl ?_
    refine XS.iconst X6.here hx rfl (B at_165) ?_
    refine XS.iloadN X6.here hx rfl (B at_166) rfl ?_
    refine st13 _ ?_
    show GO p e below T13 (FL m x0 x1 x2 x3 x4 x5 170 (VI 4) (VR b3) (VR b6) (VI 59) .unset .unset []) _
    refine XS.aload X13.here hx rfl (B at_170) rfl rfl ?_
    refine XS.iconst X13.here hx rfl (B at_172) ?_
    refine XS.iloadN X13.here hx rfl (B at_173) rfl ?_
    refine st18 _ ?_
    show GO p e below T18 (FL m x0 x1 x2 x3 x4 x5 177 (VI 4) (VR b3) (VR b6) (VI 59) .unset .unset []) _
    refine XS.aload X18.here hx rfl (B at_177) rfl rfl ?_
    refine XS.bipush X18.here hx rfl (B at_179) ?_
    refine XS.iloadN X18.here hx rfl (B at_181) rfl ?_
    refine st23 _ ?_
    show GO p e below T23 (FL m x0 x1 x2 x3 x4 x5 185 (VI 4) (VR b3) (VR b6) (VI 59) .unset .unset []) _
    refine XS.aload X23.here hx rfl (B at_185) rfl rfl ?_
    refine XS.bipush X23.here hx rfl (B at_187) ?_
    refine XS.iloadN X23.here hx rfl (B at_189) rfl ?_
    refine st28 _ ?_
    show GO p e below T28 (FL m x0 x1 x2 x3 x4 x5 193 (VI 4) (VR b3) (VR b6) (VI 59) .unset .unset []) _
    refine XS.aload X28.here hx rfl (B at_193) rfl rfl ?_
    refine XS.bipush X28.here hx rfl (B at_195) ?_
    refine XS.iload X28.here hx rfl (B at_197) rfl ?_
    refine st30 _ ?_
    show GO p e below T30 (FL m x0 x1 x2 x3 x4 x5 202 (VI 4) (VR b3) (VR b6) (VI 59) .unset .unset []) _
    refine XS.aload X30.here hx rfl (B at_202) rfl rfl ?_
    refine XS.iload X30.here hx rfl (B at_204) rfl ?_
    refine XS.iconst X30.here hx rfl (B at_206) ?_
    refine XS.isub X30.here hx rfl (B at_207) rfl ?_
    refine XS.iload X30.here hx rfl (B at_208) rfl ?_
    refine XS.bipush X30.here hx rfl (B at_210) ?_
    refine XS.iushr X30.here hx rfl (B at_212) rfl ?_
    refine st32 _ ?_
    show GO p e below T32 (FL m x0 x1 x2 x3 x4 x5 216 (VI 4) (VR b3) (VR b6) (VI 59) .unset .unset []) _
    refine XS.iload X32.here hx rfl (B at_216) rfl ?_
    refine XS.bipush X32.here hx rfl (B at_218) ?_
    refine st37 _ ?_
    show GO p e below T37 (FL m x0 x1 x2 x3 x4 x5 223 (VI 4) (VR b3) (VR b6) (VI 59) .unset .unset [(.int 59)]) _
    refine XS.istore X37.here hx rfl (B at_223) rfl (l' := #[.val (.int x0), .val (.int x1), .val (.int x2), .val (.int x3), .val (.int x4), .val (.int x5), .val (.int (4 : Int32)), .val (.ref b3), .val (.ref b6), .val (.int (59 : Int32)), .val (.int (59 : Int32)), .unset]) rfl ?_
    refine XS.aload X37.here hx rfl (B at_225) rfl rfl ?_
    refine XS.iconst X37.here hx rfl (B at_227) ?_
    refine XS.bipush X37.here hx rfl (B at_228) ?_
    refine st41 _ ?_
    show GO p e below T41 (FL m x0 x1 x2 x3 x4 x5 231 (VI 4) (VR b3) (VR b6) (VI 59) (VI 59) .unset []) _
    refine XS.aload X41.here hx rfl (B at_231) rfl rfl ?_
    refine XS.aload X41.here hx rfl (B at_233) rfl rfl ?_
    refine XS.iconst X41.here hx rfl (B at_235) ?_
    refine XS.iload X41.here hx rfl (B at_236) rfl ?_
    refine st46 _ ?_
    show GO p e below T46 (FL m x0 x1 x2 x3 x4 x5 241 (VI 4) (VR b3) (VR b6) (VI 59) (VI 59) .unset []) _
    refine XS.aload X46.here hx rfl (B at_241) rfl rfl ?_
    refine XS.aload X46.here hx rfl (B at_243) rfl rfl ?_
    refine XS.iconst X46.here hx rfl (B at_245) ?_
    refine XS.iload X46.here hx rfl (B at_246) rfl ?_
    refine st52 _ ?_
    show GO p e below T52 (FL m x0 x1 x2 x3 x4 x5 251 (VI 4) (VR b3) (VR b6) (VI 59) (VI 59) .unset []) _
    refine XS.aload X52.here hx rfl (B at_251) rfl rfl ?_
    refine XS.aload X52.here hx rfl (B at_253) rfl rfl ?_
    refine XS.bipush X52.here hx rfl (B at_255) ?_
    refine XS.iload X52.here hx rfl (B at_257) rfl ?_
    refine st58 _ ?_
    show GO p e below T58 (FL m x0 x1 x2 x3 x4 x5 262 (VI 4) (VR b3) (VR b6) (VI 59) (VI 59) .unset []) _
    refine XS.aload X58.here hx rfl (B at_262) rfl rfl ?_
    refine XS.aload X58.here hx rfl (B at_264) rfl rfl ?_
    refine XS.bipush X58.here hx rfl (B at_266) ?_
    refine XS.iload X58.here hx rfl (B at_268) rfl ?_
    refine st63 _ ?_
    show GO p e below T63 (FL m x0 x1 x2 x3 x4 x5 273 (VI 4) (VR b3) (VR b6) (VI 59) (VI 59) .unset []) _
    refine XS.aload X63.here hx rfl (B at_273) rfl rfl ?_
    refine XS.aload X63.here hx rfl (B at_275) rfl rfl ?_
    refine XS.bipush X63.here hx rfl (B at_277) ?_
    refine XS.iload X63.here hx rfl (B at_279) rfl ?_
    refine st65 _ ?_
    show GO p e below T65 (FL m x0 x1 x2 x3 x4 x5 284 (VI 4) (VR b3) (VR b6) (VI 59) (VI 59) .unset []) _
    refine XS.aload X65.here hx rfl (B at_284) rfl rfl ?_
    refine XS.aload X65.here hx rfl (B at_286) rfl rfl ?_
    refine XS.iload X65.here hx rfl (B at_288) rfl ?_
    refine XS.iconst X65.here hx rfl (B at_290) ?_
    refine XS.isub X65.here hx rfl (B at_291) rfl ?_
    refine XS.iload X65.here hx rfl (B at_292) rfl ?_
    refine st68 _ ?_
    show GO p e below T68 (FL m x0 x1 x2 x3 x4 x5 297 (VI 4) (VR b3) (VR b6) (VI 59) (VI 59) .unset []) _
    refine XS.iload X68.here hx rfl (B at_297) rfl ?_
    refine XS.bipush X68.here hx rfl (B at_299) ?_
    refine XS.icmpYes X68.here hx rfl (pc0 := 301) (pc' := 335) rfl (B at_301) rfl (flt (by decide : ¬ ((60 : Int32) < (59 : Int32)))).2.2.2 (by decide) (by decide) ?_
    show GO p e below T68 (FL m x0 x1 x2 x3 x4 x5 335 (VI 4) (VR b3) (VR b6) (VI 59) (VI 59) .unset []) _
    refine XS.aload X68.here hx rfl (B at_335) rfl rfl ?_
    refine XS.iload X68.here hx rfl (B at_337) rfl ?_
    refine XS.iconst X68.here hx rfl (B at_339) ?_
    refine XS.iadd X68.here hx rfl (B at_340) rfl ?_
    refine XS.bipush X68.here hx rfl (B at_341) ?_
    refine st74 _ ?_
    show GO p e below T74 (FL m x0 x1 x2 x3 x4 x5 344 (VI 4) (VR b3) (VR b6) (VI 59) (VI 59) .unset []) _
    refine st79 _ ?_
    show GO p e below T79 (FL m x0 x1 x2 x3 x4 x5 347 (VI 4) (VR b3) (VR b6) (VI 59) (VI 59) .unset [(.ref b79)]) _
    refine XS.dup X79.here hx rfl (B at_347) rfl rfl ?_
    refine XS.aload X79.here hx rfl (B at_348) rfl rfl ?_
    refine st83.trans ?_
    show GO p e below T83 (FL m x0 x1 x2 x3 x4 x5 353 (VI 4) (VR b3) (VR b6) (VI 59) (VI 59) .unset [(.ref b79)]) _
    refine st87.trans ?_
    show GO p e below T87 (FL m x0 x1 x2 x3 x4 x5 356 (VI 4) (VR b3) (VR b6) (VI 59) (VI 59) .unset [(.ref qb87)]) _
    refine XS.astore X87.here hx rfl (B at_356) rfl rfl (l' := #[.val (.int x0), .val (.int x1), .val (.int x2), .val (.int x3), .val (.int x4), .val (.int x5), .val (.int (4 : Int32)), .val (.ref b3), .val (.ref b6), .val (.int (59 : Int32)), .val (.int (59 : Int32)), .val (.ref qb87)]) rfl ?_
    refine XS.aload X87.here hx rfl (B at_358) rfl rfl ?_
    refine st97 _ ?_
    show GO p e below T97 (FL m x0 x1 x2 x3 x4 x5 363 (VI 4) (VR b3) (VR b6) (VI 59) (VI 59) (VR qb87) [(.ref b97), (.ref qb87)]) _
    refine XS.dup X97.here hx rfl (B at_363) rfl rfl ?_
    refine XS.aload X97.here hx rfl (B at_364) rfl rfl ?_
    refine st101.trans ?_
    show GO p e below T101 (FL m x0 x1 x2 x3 x4 x5 369 (VI 4) (VR b3) (VR b6) (VI 59) (VI 59) (VR qb87) [(.ref b97), (.ref qb87)]) _
    refine st109.trans ?_
    show GO p e below T109 (FL m x0 x1 x2 x3 x4 x5 372 (VI 4) (VR b3) (VR b6) (VI 59) (VI 59) (VR qb87) [(.int (if (qs cs32) = (List.set cs68 60 (34 : Int32)) then (1 : Int32) else (0 : Int32)))]) _
    exact kgo
  have pre112 : ∀ tgt, Steps p.tables e below (T109.setTop (FL m x0 x1 x2 x3 x4 x5 372 (VI 4) (VR b3) (VR b6) (VI 59) (VI 59) (VR qb87) [(.int 1)])) tgt → Steps p.tables e below (s₁.setTop (entryFrame m #[(.int x0), (.int x1), (.int x2), (.int x3), (.int x4), (.int x5)] maxLocals)) tgt := by
    have q := pre111
    rw [if_pos hAB] at q
    exact q
  obtain ⟨fs, hretL, hrun, hended, hEnd⟩ := Stand.leaveW X109 hS87 (by rw [eq109]; exact hk103) (v := some (.int (1 : Int32))) (fun h => by rw [Bd.returns] at h; cases h)
  have hCf : CHr Z EL0 s.vm s.heap T109.vm T109.heap := by rw [hh, eq109]; exact CH103.trans (CHv.at X109 hZ87 (own_EW hw) CH103.1)
  refine ⟨_, _, pre112 _ ?_, hrun, hended, _, _, rfl, ?_, hCf, hEnd.1, hEnd.2.1, hEnd.2.2.1, hEnd.2.2.2.mono (by decide) (by decide)⟩
  · exact retOut X109 hx Bd.returns rfl (Or.inl ⟨rfl, Or.inr (Or.inl rfl), _, rfl⟩) (B at_372) hretL
  · show Q_rm0k4 Z x0 x1 x2 x3 x4 x5 G1 fm h0 n0 _ T109.heap _
    rw [eq109]
    exact ⟨rfl, N110⟩
def Q_rm0k5 (Z : State) (x0 : Int32) (x1 : Int32) (x2 : Int32) (x3 : Int32) (x4 : Int32) (x5 : Int32) (G1 : Int32) (fm : Value) (h0 : Heap) (n0 : Nat) (v : Option Value) (h : Heap) (L : List Loc) : Prop := v = some (.int (1 : Int32)) ∧ Fr n0 L
set_option maxRecDepth 65536 in
set_option maxHeartbeats 40000000 in
theorem rm0k5 (l : Launch) (Z : State) (a0 : Array Value) (hw : HW a0 Z) (ws : List Jvm.Cond) (x0 : Int32) (x1 : Int32) (x2 : Int32) (x3 : Int32) (x4 : Int32) (x5 : Int32) (G1 : Int32) (fm : Value) (h0 : Heap) (n0 : Nat) (O0 : Old Z n0 h0) (hkc : (x5 &&& (7 : Int32)) = (5 : Int32)) (O2 : Sta Z Z.heap "java/lang/String" "COMPACT_STRINGS" "Z" (.int G1)) (P5 : ¬ (G1 = (0 : Int32))) (O4 : Sta Z Z.heap "jdk/internal/util/Preconditions" "SIOOBE_FORMATTER" "Ljava/util/function/BiFunction;" fm) (rf : fm.isRef = true) :
    MetFree l x (head1 (Jvm.Cond.code x code maxLocals ret :: ws) room_1) (fun aa U => aa = #[(.int x0), (.int x1), (.int x2), (.int x3), (.int x4), (.int x5)] ∧ Z.Warmed39 U.vm ∧ U.heap = h0 ∧ CHv Z EL0 U.vm h0) (fun _ _ _ _ _ => True) (fun _ U o U' => ∃ v L, o = .returned v ∧ Q_rm0k5 Z x0 x1 x2 x3 x4 x5 G1 fm h0 n0 v U'.heap L ∧ CHr Z EL0 U.vm U.heap U'.vm U'.heap ∧ ReturnedEndW U o U' L 26 1745) := by
  refine MetFree.of_bodySF (plainFor_of_name pn8) hisR ?_
  intro p e s m args below meth c s₁ Bd hml0 hP hK
  obtain ⟨rfl, hZ, hh, hCH⟩ := hP
  have hx := Bd.exec
  have hby := Bd.bytes
  have B := fun {pc : Nat} {r} (h : decode code pc = r) => hb hby h
  have hml : c.maxLocals = 12 := hml0
  have hown : s.vm.findClass "com/example/atropos/atropos/io/CurveTextQuotePinLaw" = some m.cls := findClass_of_methodNamed Bd.named
  have hnm := (name_of_methodNamed Bd.named Bd.method).1
  have X0 : Stand p l e room_1 (s.setVm s.vm) m #[(.int x0), (.int x1), (.int x2), (.int x3), (.int x4), (.int x5)] below meth c s₁ [] 0 0 := Stand.of_body Bd
  have e0 : s₁.heap = h0 := by rw [← hh, Bd.state]; rfl
  have N0 := Fr.nil n0
  have pre0 : ∀ tgt, Steps p.tables e below (s₁.setTop (mkF m 0 #[.val (.int x0), .val (.int x1), .val (.int x2), .val (.int x3), .val (.int x4), .val (.int x5), .unset, .unset, .unset, .unset, .unset, .unset] [])) tgt → Steps p.tables e below (s₁.setTop (entryFrame m #[(.int x0), (.int x1), (.int x2), (.int x3), (.int x4), (.int x5)] maxLocals)) tgt := fun tgt kgo => castTop (ef_rm0k0 m x0 x1 x2 x3 x4 x5) kgo
  have hS0 : s.Since s.vm 0 := (State.WarmedH.refl s).since 0
  have hk0 : 0 ≤ h0.size := Nat.zero_le _
  have CH0 : CHr Z EL0 s.vm h0 s.vm h0 := CHr.refl hCH
  have pre1 : ∀ tgt, Steps p.tables e below (s₁.setTop (FL m x0 x1 x2 x3 x4 x5 7 (VI (x5 &&& (7 : Int32))) .unset .unset .unset .unset .unset [])) tgt → Steps p.tables e below (s₁.setTop (entryFrame m #[(.int x0), (.int x1), (.int x2), (.int x3), (.int x4), (.int x5)] maxLocals)) tgt := by
    intro tgt kgo
    refine pre0 _ ?_
    refine XS.iload X0.here hx rfl (B at_0) rfl ?_
    refine XS.bipush X0.here hx rfl (B at_2) ?_
    refine XS.iand X0.here hx rfl (B at_4) rfl ?_
    refine XS.istore X0.here hx rfl (B at_5) rfl (l' := #[.val (.int x0), .val (.int x1), .val (.int x2), .val (.int x3), .val (.int x4), .val (.int x5), .val (.int (x5 &&& (7 : Int32))), .unset, .unset, .unset, .unset, .unset]) rfl ?_
    exact kgo
  have pre2 : ∀ tgt, Steps p.tables e below (s₁.setTop (FL m x0 x1 x2 x3 x4 x5 7 (VI 5) .unset .unset .unset .unset .unset [])) tgt → Steps p.tables e below (s₁.setTop (entryFrame m #[(.int x0), (.int x1), (.int x2), (.int x3), (.int x4), (.int x5)] maxLocals)) tgt := by
    have q := pre1
    rw [hkc] at q
    exact q
  obtain ⟨T3, h3, k3, X3, e3, E3, A3, st3⟩ := newP (aty := .char) X0 hx hZ (ow0 hw) e0 (g := (FL m x0 x1 x2 x3 x4 x5 111 (VI 5) .unset .unset .unset .unset .unset [(.int 60)])) rfl (B at_111) rfl (by decide) (cap := 60) (by decide) (by decide) (by decide) (by decide)
  obtain ⟨b3, g3⟩ : ∃ z, z = h0.size := ⟨_, rfl⟩
  rw [← g3] at A3 st3
  have V3 : Arv Z h3 b3 k3 .char (60 : Int32) (List.replicate 60 (.int (0 : Int32))) (.int (0 : Int32)) := (Arv.new A3 (by decide)).pad (pad_rep [] (.int (0 : Int32)) 60)
  have gn3 : n0 ≤ b3 := Nat.le_trans (own_sz O0) (Nat.le_of_eq g3.symm)
  have Y3 := Safe.ext E3 CH0.1 (Safe.new (x := b3) (Nat.le_of_eq g3.symm))
  have CH4 := CH0.trans (CHr.ext E3 CH0.1)
  have hk4 := Nat.le_trans hk0 E3.1
  have Ol5 := O0.ext E3
  obtain ⟨T6, h6, k6, X6, e6, E6, A6, st6⟩ := newP (aty := .char) X3 hx hZ (ow0 hw) e3 (g := (FL m x0 x1 x2 x3 x4 x5 117 (VI 5) (VR b3) .unset .unset .unset .unset [(.int 62)])) rfl (B at_117) rfl (by decide) (cap := 62) (by decide) (by decide) (by decide) (by decide)
  obtain ⟨b6, g6⟩ : ∃ z, z = h3.size := ⟨_, rfl⟩
  rw [← g6] at A6 st6
  have V6 : Arv Z h6 b6 k6 .char (62 : Int32) (List.replicate 62 (.int (0 : Int32))) (.int (0 : Int32)) := (Arv.new A6 (by decide)).pad (pad_rep [] (.int (0 : Int32)) 62)
  have gn6 : n0 ≤ b6 := Nat.le_trans (own_sz Ol5) (Nat.le_of_eq g6.symm)
  have neb3_6 : b3 ≠ b6 := Nat.ne_of_lt (Nat.lt_of_lt_of_le V3.lt (Nat.le_of_eq g6.symm))
  have Y6 := Safe.ext E6 CH4.1 (Safe.new (x := b6) (Nat.le_of_eq g6.symm))
  have CH7 := CH4.trans (CHr.ext E6 CH4.1)
  have hk7 := Nat.le_trans hk4 E6.1
  have Ol8 := Ol5.ext E6
  have f10 := (V3.ext E6)
  have Vm9 : Arv Z h6 b3 k3 .char (60 : Int32) (List.map Value.int (List.replicate 60 (0 : Int32))) (.int (0 : Int32)) := by have q := f10; rw [List.map_replicate]; exact q
  have Vm11 : Arv Z h6 b6 k6 .char (62 : Int32) (List.map Value.int (List.replicate 62 (0 : Int32))) (.int (0 : Int32)) := by have q := V6; rw [List.map_replicate]; exact q
  obtain ⟨cl12, Ar12, q12, S12, M12, H12, G12⟩ := id Vm9
  obtain ⟨_, _, ⟨T13, L13, k13, n13⟩, -, X13, ⟨Lc13, hQ13, l13, y13, z13⟩, st13⟩ := Jvm.LawKit.callS X6 hx (y := my34) hown (mvT hZ (ow1 hw)) (mvT hZ (ow2 hw)) (mvT hZ (ow3 hw)) (mvT hZ (ow4 hw)) (by decide) (backOf (W := 0) (rmpi l Z a0 hw [] b3 (0 : Int32) x0 k3 (List.replicate 60 (0 : Int32)) 0 60 h6 n0 Ol8 Vm9 (by simp only [List.length_replicate]) rfl (by decide) (by decide) gn3) hZ (ow4 hw) (ow3 hw) (by decide) (by decide)) (g := (FL m x0 x1 x2 x3 x4 x5 167 (VI 5) (VR b3) (VR b6) (VI 60) .unset .unset [(.int x0), (.int 0), (.ref b3)])) rfl (by rw [hml]; rfl) (argsL := [(.ref b3), (.int 0), (.int x0)]) (rest := []) (lenOf pd26 rfl) rfl (w0 rfl rfl) (B at_167) (fun _ _ => ⟨rfl, e6, (by decide : 2 + 0 ≤ _), (by decide : 122 + 0 ≤ _)⟩)
  dsimp only [Pt.U, Pt.locs, Pt.cells, Pt.slots] at X13 l13 y13 z13 st13 hQ13
  rw [l13, y13, z13] at X13
  obtain ⟨rfl, Nq13, kp13, na13⟩ := hQ13
  have N14 := Fr.app N0 Nq13
  have f15 := (Safe.ext E6 CH4.1 Y3)
  have CH16 := CH7.trans (CHr.keep kp13 (sfS f15 sf0) CH7.1)
  have hk16 := Nat.le_trans hk7 kp13.1
  have Ol17 := Ol8.keep kp13 (allS gn3 all0)
  obtain ⟨cs13, hcs13⟩ : ∃ z, z = List.set (List.replicate 60 (0 : Int32)) 0 (x0 &&& (255 : Int32)) := ⟨_, rfl⟩
  rw [← hcs13] at na13
  have lc13 : List.length cs13 = 60 := by rw [hcs13, List.length_set]; exact (by simp only [List.length_replicate])
  have bc13 : Byt cs13 := by rw [hcs13]; exact own_setb (own_rep0 60) 0 (own_a255 _)
  obtain ⟨_, _, ⟨T18, L18, k18, n18⟩, -, X18, ⟨Lc18, hQ18, l18, y18, z18⟩, st18⟩ := Jvm.LawKit.callS X13 hx (y := my34) hown (mvT hZ (ow1 hw)) (mvT hZ (ow2 hw)) (mvT hZ (ow3 hw)) (mvT hZ (ow4 hw)) (by decide) (backOf (W := 0) (rmpi l Z a0 hw [] b3 (1 : Int32) x1 k3 cs13 1 60 T13.heap n0 Ol17 na13 lc13 rfl (by decide) (by decide) gn3) hZ (ow4 hw) (ow3 hw) (by decide) (by decide)) (g := (FL m x0 x1 x2 x3 x4 x5 174 (VI 5) (VR b3) (VR b6) (VI 60) .unset .unset [(.int x1), (.int 1), (.ref b3)])) rfl (by rw [hml]; rfl) (argsL := [(.ref b3), (.int 1), (.int x1)]) (rest := []) (lenOf pd26 rfl) rfl (w0 rfl rfl) (B at_174) (fun _ _ => ⟨rfl, rfl, (by decide : 2 + 0 ≤ _), (by decide : 122 + 0 ≤ _)⟩)
  dsimp only [Pt.U, Pt.locs, Pt.cells, Pt.slots] at X18 l18 y18 z18 st18 hQ18
  rw [l18, y18, z18] at X18
  obtain ⟨rfl, Nq18, kp18, na18⟩ := hQ18
  have N19 := Fr.app N14 Nq18
  have f20 := (Safe.keep kp13 (sfS f15 sf0) CH7.1 f15)
  have CH21 := CH16.trans (CHr.keep kp18 (sfS f20 sf0) CH16.1)
  have hk21 := Nat.le_trans hk16 kp18.1
  have Ol22 := Ol17.keep kp18 (allS gn3 all0)
  obtain ⟨cs18, hcs18⟩ : ∃ z, z = List.set cs13 1 (x1 &&& (255 : Int32)) := ⟨_, rfl⟩
  rw [← hcs18] at na18
  have lc18 : List.length cs18 = 60 := by rw [hcs18, List.length_set]; exact lc13
  have bc18 : Byt cs18 := by rw [hcs18]; exact own_setb bc13 1 (own_a255 _)
  obtain ⟨_, _, ⟨T23, L23, k23, n23⟩, -, X23, ⟨Lc23, hQ23, l23, y23, z23⟩, st23⟩ := Jvm.LawKit.callS X18 hx (y := my34) hown (mvT hZ (ow1 hw)) (mvT hZ (ow2 hw)) (mvT hZ (ow3 hw)) (mvT hZ (ow4 hw)) (by decide) (backOf (W := 0) (rmpi l Z a0 hw [] b3 (58 : Int32) x2 k3 cs18 58 60 T18.heap n0 Ol22 na18 lc18 rfl (by decide) (by decide) gn3) hZ (ow4 hw) (ow3 hw) (by decide) (by decide)) (g := (FL m x0 x1 x2 x3 x4 x5 182 (VI 5) (VR b3) (VR b6) (VI 60) .unset .unset [(.int x2), (.int 58), (.ref b3)])) rfl (by rw [hml]; rfl) (argsL := [(.ref b3), (.int 58), (.int x2)]) (rest := []) (lenOf pd26 rfl) rfl (w0 rfl rfl) (B at_182) (fun _ _ => ⟨rfl, rfl, (by decide : 2 + 0 ≤ _), (by decide : 122 + 0 ≤ _)⟩)
  dsimp only [Pt.U, Pt.locs, Pt.cells, Pt.slots] at X23 l23 y23 z23 st23 hQ23
  rw [l23, y23, z23] at X23
  obtain ⟨rfl, Nq23, kp23, na23⟩ := hQ23
  have N24 := Fr.app N19 Nq23
  have f25 := (Safe.keep kp18 (sfS f20 sf0) CH16.1 f20)
  have CH26 := CH21.trans (CHr.keep kp23 (sfS f25 sf0) CH21.1)
  have hk26 := Nat.le_trans hk21 kp23.1
  have Ol27 := Ol22.keep kp23 (allS gn3 all0)
  obtain ⟨cs23, hcs23⟩ : ∃ z, z = List.set cs18 58 (x2 &&& (255 : Int32)) := ⟨_, rfl⟩
  rw [← hcs23] at na23
  have lc23 : List.length cs23 = 60 := by rw [hcs23, List.length_set]; exact lc18
  have bc23 : Byt cs23 := by rw [hcs23]; exact own_setb bc18 58 (own_a255 _)
  obtain ⟨_, _, ⟨T28, L28, k28, n28⟩, -, X28, ⟨Lc28, hQ28, l28, y28, z28⟩, st28⟩ := Jvm.LawKit.callS X23 hx (y := my34) hown (mvT hZ (ow1 hw)) (mvT hZ (ow2 hw)) (mvT hZ (ow3 hw)) (mvT hZ (ow4 hw)) (by decide) (backOf (W := 0) (rmpi l Z a0 hw [] b3 (59 : Int32) x3 k3 cs23 59 60 T23.heap n0 Ol27 na23 lc23 rfl (by decide) (by decide) gn3) hZ (ow4 hw) (ow3 hw) (by decide) (by decide)) (g := (FL m x0 x1 x2 x3 x4 x5 190 (VI 5) (VR b3) (VR b6) (VI 60) .unset .unset [(.int x3), (.int 59), (.ref b3)])) rfl (by rw [hml]; rfl) (argsL := [(.ref b3), (.int 59), (.int x3)]) (rest := []) (lenOf pd26 rfl) rfl (w0 rfl rfl) (B at_190) (fun _ _ => ⟨rfl, rfl, (by decide : 2 + 0 ≤ _), (by decide : 122 + 0 ≤ _)⟩)
  dsimp only [Pt.U, Pt.locs, Pt.cells, Pt.slots] at X28 l28 y28 z28 st28 hQ28
  rw [l28, y28, z28] at X28
  obtain ⟨rfl, Nq28, kp28, na28⟩ := hQ28
  have N29 := Fr.app N24 Nq28
  have f30 := (Safe.keep kp23 (sfS f25 sf0) CH21.1 f25)
  have CH31 := CH26.trans (CHr.keep kp28 (sfS f30 sf0) CH26.1)
  have hk31 := Nat.le_trans hk26 kp28.1
  have Ol32 := Ol27.keep kp28 (allS gn3 all0)
  obtain ⟨cs28, hcs28⟩ : ∃ z, z = List.set cs23 59 (x3 &&& (255 : Int32)) := ⟨_, rfl⟩
  rw [← hcs28] at na28
  have lc28 : List.length cs28 = 60 := by rw [hcs28, List.length_set]; exact lc23
  have bc28 : Byt cs28 := by rw [hcs28]; exact own_setb bc23 59 (own_a255 _)
  obtain ⟨_, _, ⟨T33, L33, k33, n33⟩, -, X33, ⟨Lc33, hQ33, l33, y33, z33⟩, st33⟩ := Jvm.LawKit.callS X28 hx (y := my34) hown (mvT hZ (ow1 hw)) (mvT hZ (ow2 hw)) (mvT hZ (ow3 hw)) (mvT hZ (ow4 hw)) (by decide) (backOf (W := 0) (rmpo l Z a0 hw [] b3 (60 : Int32) x4 k3 _ (60 : Int32) T28.heap n0 Ol32 na28 (by decide)) hZ (ow4 hw) (ow3 hw) (by decide) (by decide)) (g := (FL m x0 x1 x2 x3 x4 x5 199 (VI 5) (VR b3) (VR b6) (VI 60) .unset .unset [(.int x4), (.int 60), (.ref b3)])) rfl (by rw [hml]; rfl) (argsL := [(.ref b3), (.int 60), (.int x4)]) (rest := []) (lenOf pd26 rfl) rfl (w0 rfl rfl) (B at_199) (fun _ _ => ⟨rfl, rfl, (by decide : 2 + 0 ≤ _), (by decide : 122 + 0 ≤ _)⟩)
  dsimp only [Pt.U, Pt.locs, Pt.cells, Pt.slots] at X33 l33 y33 z33 st33 hQ33
  rw [l33, y33, z33] at X33
  obtain ⟨rfl, Nq33, eq33⟩ := hQ33
  have N34 := Fr.app N29 Nq33
  obtain ⟨_, _, ⟨T35, L35, k35, n35⟩, -, X35, ⟨Lc35, hQ35, l35, y35, z35⟩, st35⟩ := Jvm.LawKit.callS X33 hx (y := my34) hown (mvT hZ (ow1 hw)) (mvT hZ (ow2 hw)) (mvT hZ (ow3 hw)) (mvT hZ (ow4 hw)) (by decide) (backOf (W := 0) (rmpi l Z a0 hw [] b3 (59 : Int32) ((x5.toUInt32 >>> ((8 : Int32) &&& 31).toUInt32).toInt32) k3 cs28 59 60 T28.heap n0 Ol32 na28 lc28 rfl (by decide) (by decide) gn3) hZ (ow4 hw) (ow3 hw) (by decide) (by decide)) (g := (FL m x0 x1 x2 x3 x4 x5 213 (VI 5) (VR b3) (VR b6) (VI 60) .unset .unset [(.int ((x5.toUInt32 >>> ((8 : Int32) &&& 31).toUInt32).toInt32)), (.int 59), (.ref b3)])) rfl (by rw [hml]; rfl) (argsL := [(.ref b3), (.int 59), (.int ((x5.toUInt32 >>> ((8 : Int32) &&& 31).toUInt32).toInt32))]) (rest := []) (lenOf pd26 rfl) rfl (w0 rfl rfl) (B at_213) (fun _ _ => ⟨rfl, eq33, (by decide : 2 + 0 ≤ _), (by decide : 122 + 0 ≤ _)⟩)
  dsimp only [Pt.U, Pt.locs, Pt.cells, Pt.slots] at X35 l35 y35 z35 st35 hQ35
  rw [l35, y35, z35] at X35
  obtain ⟨rfl, Nq35, kp35, na35⟩ := hQ35
  have N36 := Fr.app N34 Nq35
  have f37 := (Safe.keep kp28 (sfS f30 sf0) CH26.1 f30)
  have CH38 := CH31.trans (CHr.keep kp35 (sfS f37 sf0) CH31.1)
  have hk38 := Nat.le_trans hk31 kp35.1
  have Ol39 := Ol32.keep kp35 (allS gn3 all0)
  obtain ⟨cs35, hcs35⟩ : ∃ z, z = List.set cs28 59 (((x5.toUInt32 >>> ((8 : Int32) &&& 31).toUInt32).toInt32) &&& (255 : Int32)) := ⟨_, rfl⟩
  rw [← hcs35] at na35
  have lc35 : List.length cs35 = 60 := by rw [hcs35, List.length_set]; exact lc28
  have bc35 : Byt cs35 := by rw [hcs35]; exact own_setb bc28 59 (own_a255 _)
  obtain ⟨_, _, ⟨T40, L40, k40, n40⟩, -, X40, ⟨Lc40, hQ40, l40, y40, z40⟩, st40⟩ := Jvm.LawKit.callS X35 hx (y := my7) hown (mvT hZ (ow5 hw)) (mvT hZ (ow6 hw)) (mvT hZ (ow7 hw)) (mvT hZ (ow8 hw)) (by decide) (backOf (W := 0) (rmmin l Z a0 hw [] (60 : Int32) (60 : Int32)  T35.heap n0 Ol39 ) hZ (ow8 hw) (ow7 hw) (by decide) (by decide)) (g := (FL m x0 x1 x2 x3 x4 x5 220 (VI 5) (VR b3) (VR b6) (VI 60) .unset .unset [(.int 60), (.int 60)])) rfl (by rw [hml]; rfl) (argsL := [(.int 60), (.int 60)]) (rest := []) (lenOf pd2 rfl) rfl (w0 rfl rfl) (B at_220) (fun _ _ => ⟨rfl, rfl, (by decide : 2 + 0 ≤ _), (by decide : 122 + 0 ≤ _)⟩)
  dsimp only [Pt.U, Pt.locs, Pt.cells, Pt.slots] at X40 l40 y40 z40 st40 hQ40
  rw [l40, y40, z40] at X40
  obtain ⟨hv40, Nq40, eq40⟩ := hQ40
  obtain rfl := own_lit hv40 (y := (60 : Int32)) (by decide)
  have N41 := Fr.app N36 Nq40
  have f42 := (((((Vm11.keep kp13 (ninS (Ne.symm neb3_6) nin0)).keep kp18 (ninS (Ne.symm neb3_6) nin0)).keep kp23 (ninS (Ne.symm neb3_6) nin0)).keep kp28 (ninS (Ne.symm neb3_6) nin0)).keep kp35 (ninS (Ne.symm neb3_6) nin0))
  obtain ⟨cl43, Ar43, q43, S43, M43, H43, G43⟩ := id f42
  have hin43 : ¬ ((0 : Int32) < 0 ∨ cl43.slots.size ≤ ((0 : Int32)).toNatClampNeg) := inb_of S43 ⟨by decide, by decide⟩
  obtain ⟨T44, h44, X44, e44, W44, st44⟩ := stC X40 hx hZ eq40 Ar43 (j := (0 : Int32)) hin43 (g := (FL m x0 x1 x2 x3 x4 x5 230 (VI 5) (VR b3) (VR b6) (VI 60) (VI 60) .unset [(.int 34), (.int 0), (.ref b6)])) rfl rfl (B at_230)
  have V44 : Arv Z h44 b6 k6 .char (62 : Int32) (List.map Value.int (List.set (List.replicate 62 (0 : Int32)) 0 (34 : Int32))) (.int (0 : Int32)) := (by have q := (Arv.set Ar43 q43 S43 M43 H43 G43 (fits_nar_char _) W44 0 rfl (by rw [List.length_map, ((by simp only [List.length_replicate]) : List.length (List.replicate 62 (0 : Int32)) = 62)]; decide)); rw [show nar .char (34 : Int32) = 34 by decide] at q; rw [List.map_set]; exact q)
  have f45 := (Safe.keep kp35 (sfS f37 sf0) CH31.1 (Safe.keep kp28 (sfS f30 sf0) CH26.1 (Safe.keep kp23 (sfS f25 sf0) CH21.1 (Safe.keep kp18 (sfS f20 sf0) CH16.1 (Safe.keep kp13 (sfS f15 sf0) CH7.1 Y6)))))
  have CH46 := CH38.trans (CHr.wr W44 f45 CH38.1)
  have hk46 := Nat.le_trans hk38 (Keep.of_wr W44).1
  have N47 := Fr.snoc X44 N41 gn6
  have Ol47 := Ol39.wr W44 gn6
  have f48 := (na35.other W44 neb3_6)
  obtain ⟨_, _, ⟨T49, L49, k49, n49⟩, -, X49, ⟨Lc49, hQ49, l49, y49, z49⟩, st49⟩ := Jvm.LawKit.callS X44 hx (y := my35) hown (mvT hZ (ow9 hw)) (mvT hZ (ow10 hw)) (mvT hZ (ow3 hw)) (mvT hZ (ow11 hw)) (by decide) (backOf (W := 0) (rmci l Z a0 hw [] b3 b6 (0 : Int32) (60 : Int32) k3 k6 cs35 (List.set (List.replicate 62 (0 : Int32)) 0 (34 : Int32)) 0 60 62 60 h44 n0 Ol47 f48 V44 (by rw [List.length_set]; exact (by simp only [List.length_replicate])) bc35 rfl rfl (by decide) (by decide) (by decide) (by decide) (by decide) gn6) hZ (ow11 hw) (ow3 hw) (by decide) (by decide)) (g := (FL m x0 x1 x2 x3 x4 x5 238 (VI 5) (VR b3) (VR b6) (VI 60) (VI 60) .unset [(.int 60), (.int 0), (.ref b6), (.ref b3)])) rfl (by rw [hml]; rfl) (argsL := [(.ref b3), (.ref b6), (.int 0), (.int 60)]) (rest := []) (lenOf pd27 rfl) rfl (w0 rfl rfl) (B at_238) (fun _ _ => ⟨rfl, e44, (by decide : 2 + 0 ≤ _), (by decide : 122 + 0 ≤ _)⟩)
  dsimp only [Pt.U, Pt.locs, Pt.cells, Pt.slots] at X49 l49 y49 z49 st49 hQ49
  rw [l49, y49, z49] at X49
  obtain ⟨rfl, Nq49, kp49, na49⟩ := hQ49
  have N50 := Fr.app N47 Nq49
  have f51 := (Safe.wr W44 f45 CH38.1 f45)
  have CH52 := CH46.trans (CHr.keep kp49 (sfS f51 sf0) CH46.1)
  have hk52 := Nat.le_trans hk46 kp49.1
  have Ol53 := Ol47.keep kp49 (allS gn6 all0)
  obtain ⟨cs49, hcs49⟩ : ∃ z, z = List.set (List.set (List.replicate 62 (0 : Int32)) 0 (34 : Int32)) (0 + 1) (List.getD cs35 0 0) := ⟨_, rfl⟩
  rw [← hcs49] at na49
  have lc49 : List.length cs49 = 62 := by rw [hcs49, List.length_set]; exact (by rw [List.length_set]; exact (by simp only [List.length_replicate]))
  have bc49 : Byt cs49 := by rw [hcs49]; exact own_setb (own_setb (own_rep0 62) 0 (by decide)) (0 + 1) (own_gdb bc35 0)
  have f54 := (f48.keep kp49 (ninS neb3_6 nin0))
  obtain ⟨_, _, ⟨T55, L55, k55, n55⟩, -, X55, ⟨Lc55, hQ55, l55, y55, z55⟩, st55⟩ := Jvm.LawKit.callS X49 hx (y := my35) hown (mvT hZ (ow9 hw)) (mvT hZ (ow10 hw)) (mvT hZ (ow3 hw)) (mvT hZ (ow11 hw)) (by decide) (backOf (W := 0) (rmci l Z a0 hw [] b3 b6 (1 : Int32) (60 : Int32) k3 k6 cs35 cs49 1 60 62 60 T49.heap n0 Ol53 f54 na49 lc49 bc35 rfl rfl (by decide) (by decide) (by decide) (by decide) (by decide) gn6) hZ (ow11 hw) (ow3 hw) (by decide) (by decide)) (g := (FL m x0 x1 x2 x3 x4 x5 248 (VI 5) (VR b3) (VR b6) (VI 60) (VI 60) .unset [(.int 60), (.int 1), (.ref b6), (.ref b3)])) rfl (by rw [hml]; rfl) (argsL := [(.ref b3), (.ref b6), (.int 1), (.int 60)]) (rest := []) (lenOf pd27 rfl) rfl (w0 rfl rfl) (B at_248) (fun _ _ => ⟨rfl, rfl, (by decide : 2 + 0 ≤ _), (by decide : 122 + 0 ≤ _)⟩)
  dsimp only [Pt.U, Pt.locs, Pt.cells, Pt.slots] at X55 l55 y55 z55 st55 hQ55
  rw [l55, y55, z55] at X55
  obtain ⟨rfl, Nq55, kp55, na55⟩ := hQ55
  have N56 := Fr.app N50 Nq55
  have f57 := (Safe.keep kp49 (sfS f51 sf0) CH46.1 f51)
  have CH58 := CH52.trans (CHr.keep kp55 (sfS f57 sf0) CH52.1)
  have hk58 := Nat.le_trans hk52 kp55.1
  have Ol59 := Ol53.keep kp55 (allS gn6 all0)
  obtain ⟨cs55, hcs55⟩ : ∃ z, z = List.set cs49 (1 + 1) (List.getD cs35 1 0) := ⟨_, rfl⟩
  rw [← hcs55] at na55
  have lc55 : List.length cs55 = 62 := by rw [hcs55, List.length_set]; exact lc49
  have bc55 : Byt cs55 := by rw [hcs55]; exact own_setb bc49 (1 + 1) (own_gdb bc35 1)
  have f60 := (f54.keep kp55 (ninS neb3_6 nin0))
  obtain ⟨_, _, ⟨T61, L61, k61, n61⟩, -, X61, ⟨Lc61, hQ61, l61, y61, z61⟩, st61⟩ := Jvm.LawKit.callS X55 hx (y := my35) hown (mvT hZ (ow9 hw)) (mvT hZ (ow10 hw)) (mvT hZ (ow3 hw)) (mvT hZ (ow11 hw)) (by decide) (backOf (W := 0) (rmci l Z a0 hw [] b3 b6 (58 : Int32) (60 : Int32) k3 k6 cs35 cs55 58 60 62 60 T55.heap n0 Ol59 f60 na55 lc55 bc35 rfl rfl (by decide) (by decide) (by decide) (by decide) (by decide) gn6) hZ (ow11 hw) (ow3 hw) (by decide) (by decide)) (g := (FL m x0 x1 x2 x3 x4 x5 259 (VI 5) (VR b3) (VR b6) (VI 60) (VI 60) .unset [(.int 60), (.int 58), (.ref b6), (.ref b3)])) rfl (by rw [hml]; rfl) (argsL := [(.ref b3), (.ref b6), (.int 58), (.int 60)]) (rest := []) (lenOf pd27 rfl) rfl (w0 rfl rfl) (B at_259) (fun _ _ => ⟨rfl, rfl, (by decide : 2 + 0 ≤ _), (by decide : 122 + 0 ≤ _)⟩)
  dsimp only [Pt.U, Pt.locs, Pt.cells, Pt.slots] at X61 l61 y61 z61 st61 hQ61
  rw [l61, y61, z61] at X61
  obtain ⟨rfl, Nq61, kp61, na61⟩ := hQ61
  have N62 := Fr.app N56 Nq61
  have f63 := (Safe.keep kp55 (sfS f57 sf0) CH52.1 f57)
  have CH64 := CH58.trans (CHr.keep kp61 (sfS f63 sf0) CH58.1)
  have hk64 := Nat.le_trans hk58 kp61.1
  have Ol65 := Ol59.keep kp61 (allS gn6 all0)
  obtain ⟨cs61, hcs61⟩ : ∃ z, z = List.set cs55 (58 + 1) (List.getD cs35 58 0) := ⟨_, rfl⟩
  rw [← hcs61] at na61
  have lc61 : List.length cs61 = 62 := by rw [hcs61, List.length_set]; exact lc55
  have bc61 : Byt cs61 := by rw [hcs61]; exact own_setb bc55 (58 + 1) (own_gdb bc35 58)
  have f66 := (f60.keep kp61 (ninS neb3_6 nin0))
  obtain ⟨_, _, ⟨T67, L67, k67, n67⟩, -, X67, ⟨Lc67, hQ67, l67, y67, z67⟩, st67⟩ := Jvm.LawKit.callS X61 hx (y := my35) hown (mvT hZ (ow9 hw)) (mvT hZ (ow10 hw)) (mvT hZ (ow3 hw)) (mvT hZ (ow11 hw)) (by decide) (backOf (W := 0) (rmci l Z a0 hw [] b3 b6 (59 : Int32) (60 : Int32) k3 k6 cs35 cs61 59 60 62 60 T61.heap n0 Ol65 f66 na61 lc61 bc35 rfl rfl (by decide) (by decide) (by decide) (by decide) (by decide) gn6) hZ (ow11 hw) (ow3 hw) (by decide) (by decide)) (g := (FL m x0 x1 x2 x3 x4 x5 270 (VI 5) (VR b3) (VR b6) (VI 60) (VI 60) .unset [(.int 60), (.int 59), (.ref b6), (.ref b3)])) rfl (by rw [hml]; rfl) (argsL := [(.ref b3), (.ref b6), (.int 59), (.int 60)]) (rest := []) (lenOf pd27 rfl) rfl (w0 rfl rfl) (B at_270) (fun _ _ => ⟨rfl, rfl, (by decide : 2 + 0 ≤ _), (by decide : 122 + 0 ≤ _)⟩)
  dsimp only [Pt.U, Pt.locs, Pt.cells, Pt.slots] at X67 l67 y67 z67 st67 hQ67
  rw [l67, y67, z67] at X67
  obtain ⟨rfl, Nq67, kp67, na67⟩ := hQ67
  have N68 := Fr.app N62 Nq67
  have f69 := (Safe.keep kp61 (sfS f63 sf0) CH58.1 f63)
  have CH70 := CH64.trans (CHr.keep kp67 (sfS f69 sf0) CH64.1)
  have hk70 := Nat.le_trans hk64 kp67.1
  have Ol71 := Ol65.keep kp67 (allS gn6 all0)
  obtain ⟨cs67, hcs67⟩ : ∃ z, z = List.set cs61 (59 + 1) (List.getD cs35 59 0) := ⟨_, rfl⟩
  rw [← hcs67] at na67
  have lc67 : List.length cs67 = 62 := by rw [hcs67, List.length_set]; exact lc61
  have bc67 : Byt cs67 := by rw [hcs67]; exact own_setb bc61 (59 + 1) (own_gdb bc35 59)
  obtain ⟨_, _, ⟨T72, L72, k72, n72⟩, -, X72, ⟨Lc72, hQ72, l72, y72, z72⟩, st72⟩ := Jvm.LawKit.callS X67 hx (y := my35) hown (mvT hZ (ow9 hw)) (mvT hZ (ow10 hw)) (mvT hZ (ow3 hw)) (mvT hZ (ow11 hw)) (by decide) (backOf (W := 0) (rmco l Z a0 hw [] b3 b6 (60 : Int32) (60 : Int32)  T67.heap n0 Ol71 (by decide)) hZ (ow11 hw) (ow3 hw) (by decide) (by decide)) (g := (FL m x0 x1 x2 x3 x4 x5 281 (VI 5) (VR b3) (VR b6) (VI 60) (VI 60) .unset [(.int 60), (.int 60), (.ref b6), (.ref b3)])) rfl (by rw [hml]; rfl) (argsL := [(.ref b3), (.ref b6), (.int 60), (.int 60)]) (rest := []) (lenOf pd27 rfl) rfl (w0 rfl rfl) (B at_281) (fun _ _ => ⟨rfl, rfl, (by decide : 2 + 0 ≤ _), (by decide : 122 + 0 ≤ _)⟩)
  dsimp only [Pt.U, Pt.locs, Pt.cells, Pt.slots] at X72 l72 y72 z72 st72 hQ72
  rw [l72, y72, z72] at X72
  obtain ⟨rfl, Nq72, eq72⟩ := hQ72
  have N73 := Fr.app N68 Nq72
  have f74 := (f66.keep kp67 (ninS neb3_6 nin0))
  obtain ⟨_, _, ⟨T75, L75, k75, n75⟩, -, X75, ⟨Lc75, hQ75, l75, y75, z75⟩, st75⟩ := Jvm.LawKit.callS X72 hx (y := my35) hown (mvT hZ (ow9 hw)) (mvT hZ (ow10 hw)) (mvT hZ (ow3 hw)) (mvT hZ (ow11 hw)) (by decide) (backOf (W := 0) (rmci l Z a0 hw [] b3 b6 (59 : Int32) (60 : Int32) k3 k6 cs35 cs67 59 60 62 60 T67.heap n0 Ol71 f74 na67 lc67 bc35 rfl rfl (by decide) (by decide) (by decide) (by decide) (by decide) gn6) hZ (ow11 hw) (ow3 hw) (by decide) (by decide)) (g := (FL m x0 x1 x2 x3 x4 x5 294 (VI 5) (VR b3) (VR b6) (VI 60) (VI 60) .unset [(.int 60), (.int 59), (.ref b6), (.ref b3)])) rfl (by rw [hml]; rfl) (argsL := [(.ref b3), (.ref b6), (.int 59), (.int 60)]) (rest := []) (lenOf pd27 rfl) rfl (w0 rfl rfl) (B at_294) (fun _ _ => ⟨rfl, eq72, (by decide : 2 + 0 ≤ _), (by decide : 122 + 0 ≤ _)⟩)
  dsimp only [Pt.U, Pt.locs, Pt.cells, Pt.slots] at X75 l75 y75 z75 st75 hQ75
  rw [l75, y75, z75] at X75
  obtain ⟨rfl, Nq75, kp75, na75⟩ := hQ75
  have N76 := Fr.app N73 Nq75
  have f77 := (Safe.keep kp67 (sfS f69 sf0) CH64.1 f69)
  have CH78 := CH70.trans (CHr.keep kp75 (sfS f77 sf0) CH70.1)
  have hk78 := Nat.le_trans hk70 kp75.1
  have Ol79 := Ol71.keep kp75 (allS gn6 all0)
  obtain ⟨cs75, hcs75⟩ : ∃ z, z = List.set cs67 (59 + 1) (List.getD cs35 59 0) := ⟨_, rfl⟩
  rw [← hcs75] at na75
  have lc75 : List.length cs75 = 62 := by rw [hcs75, List.length_set]; exact lc67
  have bc75 : Byt cs75 := by rw [hcs75]; exact own_setb bc67 (59 + 1) (own_gdb bc35 59)
  obtain ⟨cl80, Ar80, q80, S80, M80, H80, G80⟩ := id na75
  have hin80 : ¬ ((61 : Int32) < 0 ∨ cl80.slots.size ≤ ((61 : Int32)).toNatClampNeg) := inb_of S80 ⟨by decide, by decide⟩
  obtain ⟨T81, h81, X81, e81, W81, st81⟩ := stC X75 hx hZ rfl Ar80 (j := (61 : Int32)) hin80 (g := (FL m x0 x1 x2 x3 x4 x5 343 (VI 5) (VR b3) (VR b6) (VI 60) (VI 60) .unset [(.int 34), (.int 61), (.ref b6)])) rfl rfl (B at_343)
  have V81 : Arv Z h81 b6 k6 .char (62 : Int32) (List.map Value.int (List.set cs75 61 (34 : Int32))) (.int (0 : Int32)) := (by have q := (Arv.set Ar80 q80 S80 M80 H80 G80 (fits_nar_char _) W81 61 rfl (by rw [List.length_map, (lc75 : List.length cs75 = 62)]; decide)); rw [show nar .char (34 : Int32) = 34 by decide] at q; rw [List.map_set]; exact q)
  have f82 := (Safe.keep kp75 (sfS f77 sf0) CH70.1 f77)
  have CH83 := CH78.trans (CHr.wr W81 f82 CH78.1)
  have hk83 := Nat.le_trans hk78 (Keep.of_wr W81).1
  have N84 := Fr.snoc X81 N76 gn6
  have Ol84 := Ol79.wr W81 gn6
  have f85 := ((f74.keep kp75 (ninS neb3_6 nin0)).other W81 neb3_6)
  obtain ⟨T86, h86, X86, e86, E86, A86, D86, U86, st86⟩ := newO X81 hx hZ hown (ow12 hw) (ow13 hw) (ow14 hw) e81 (g := (FL m x0 x1 x2 x3 x4 x5 344 (VI 5) (VR b3) (VR b6) (VI 60) (VI 60) .unset [])) rfl (B at_344) (by decide) (by decide)
  obtain ⟨b86, g86⟩ : ∃ z, z = h81.size := ⟨_, rfl⟩
  rw [← g86] at A86 D86 U86 st86
  have gn86 : n0 ≤ b86 := Nat.le_trans (own_sz Ol84) (Nat.le_of_eq g86.symm)
  have neb3_86 : b3 ≠ b86 := Nat.ne_of_lt (Nat.lt_of_lt_of_le f85.lt (Nat.le_of_eq g86.symm))
  have neb6_86 : b6 ≠ b86 := Nat.ne_of_lt (Nat.lt_of_lt_of_le V81.lt (Nat.le_of_eq g86.symm))
  have Y86 := Safe.ext E86 CH83.1 (Safe.new (x := b86) (Nat.le_of_eq g86.symm))
  have CH87 := CH83.trans (CHr.ext E86 CH83.1)
  have hk87 := Nat.le_trans hk83 E86.1
  have Ol88 := Ol84.ext E86
  have Fcoder_86 : Fld Z h86 b86 "java/lang/String" "coder" "B" (.int (0 : Int32)) := D86 (Or.inr (ow38 hw)) (ty := .byte) (by decide)
  have Fvalue_86 : Fld Z h86 b86 "java/lang/String" "value" "[B" .null := D86 (Or.inr (ow40 hw)) (ty := (.array .byte)) (by decide)
  have f89 := (f85.ext E86)
  obtain ⟨_, _, ⟨T90, L90, k90, n90⟩, -, X90, ⟨Lc90, hQ90, l90, y90, z90⟩, st90⟩ := X86.specialBack hx (y := my1) rfl hown (mvT hZ (ow15 hw)) (mvT hZ (ow16 hw)) (mvT hZ (ow17 hw)) (by decide) (StrChars.Road.backV (W := 1) hZ (own_ws hw) (kI := 4) (ow13 hw) (cs := cs35) (bs := List.map (fun c => c.toInt8.toInt32) cs35) (n := 60) gn86 (own_sz Ol88) A86 Fvalue_86 Fcoder_86 f89 (O2.ext Ol88.2) P5 lc35 rfl (by decide) (by decide) bc35 rfl (by decide) (by decide)) (g := (FL m x0 x1 x2 x3 x4 x5 350 (VI 5) (VR b3) (VR b6) (VI 60) (VI 60) .unset [(.ref b3), (.ref b86), (.ref b86)])) rfl (by rw [hml]; rfl) (Steps.refl _) (a := b86) (argsL := [(.ref b3)]) (rest := [(.ref b86)]) (lenOf pd28 rfl) rfl (w0 rfl rfl) (B at_350) (fun _ _ => ⟨rfl, e86, (by decide : 3 + 1 ≤ _), (by decide : 126 + 60 ≤ _)⟩)
  dsimp only [Pt.U, Pt.locs, Pt.cells, Pt.slots] at X90 l90 y90 z90 st90 hQ90
  rw [l90, y90, z90] at X90
  obtain ⟨rfl, Nq90, kp90, sE90, sC90, t90, k90_, -, -, -, sV90, sA90⟩ := hQ90
  have ln90 : List.length cs35 = 60 := lc35
  have Sp90 : StrP Z _ b86 cs35 := ⟨sE90, sC90, bc35, (by rw [ln90]; decide), t90, k90_, sV90, (by rw [ln90]; exact sA90)⟩
  have N91 := Fr.app N84 Nq90
  have CH92 := CH87.trans (CHr.keep kp90 (sfS Y86 sf0) CH87.1)
  have hk92 := Nat.le_trans hk87 kp90.1
  have Ol93 := Ol88.keep kp90 (allS gn86 all0)
  obtain ⟨sEI, sCI, spI, slI, tI, skI, sVI, sAI⟩ := id Sp90
  obtain ⟨_, _, ⟨T94, L94, k94, n94⟩, -, Xr94, hSr94, hgr94, ⟨Lc94, hQ94, l94, y94, z94, CR94⟩, st94⟩ := callSS X90 hx (y := my33) hown (mvT hZ (ow41 hw)) (mvT hZ (ow42 hw)) (mvT hZ (ow43 hw)) (mvT hZ (ow44 hw)) (by decide) (backOfSH (W := 0) (rmqb l Z a0 hw [] b86 cs35 G1 fm T90.heap n0 Ol93 O2 P5 O4 rf ⟨sEI, sCI, spI, slI, tI, skI, sVI, sAI⟩ (by rw [lc35]; decide) (by rw [lc35]; decide)) hZ (ow44 hw) (ow43 hw) (by decide) (by decide) (own_EW hw) CH92.1) (g := (FL m x0 x1 x2 x3 x4 x5 353 (VI 5) (VR b3) (VR b6) (VI 60) (VI 60) .unset [(.ref b86)])) rfl (by rw [hml]; rfl) (argsL := [(.ref b86)]) (rest := []) (lenOf pd29 rfl) rfl (w0 rfl rfl) (B at_353) (fun _ _ => ⟨rfl, rfl, (by decide : 4 + 10 ≤ _), (by decide : 186 + 705 ≤ _)⟩)
  dsimp only [Pt.U, Pt.locs, Pt.cells, Pt.slots] at Xr94 hSr94 hgr94 l94 y94 z94 CR94 st94 hQ94
  rw [l94, y94, z94] at Xr94
  obtain ⟨X94, hS94, hZ94, hown94⟩ := rebS hS0 hk92 Xr94 hSr94 hgr94 hZ hown
  have hk94 : T94.heap.size ≤ T94.heap.size := Nat.le_refl _
  obtain ⟨qb94, rfl, Nq94, kp94, Sq94⟩ := hQ94
  have N95 := Fr.app N91 Nq94
  have f96 := (f89.keep kp90 (ninS neb3_86 nin0))
  have f97 := ((V81.ext E86).keep kp90 (ninS neb6_86 nin0))
  have CH98 := CH92.trans CR94
  have Ol99 := Ol93.keep kp94 all0
  obtain ⟨sEQ, sCQ, spQ, slQ, tQ, skQ, sVQ, sAQ⟩ := id Sq94
  have f100 := (f96.keep kp94 nin0)
  have f101 := (f97.keep kp94 nin0)
  have f102 := (sEI.keep kp94)
  have f103 := (sAI.keep kp94 nin0)
  obtain ⟨T104, h104, X104, e104, E104, A104, D104, U104, st104⟩ := newO X94 hx hZ94 hown94 (ow12 hw) (ow13 hw) (ow14 hw) rfl (g := (FL m x0 x1 x2 x3 x4 x5 360 (VI 5) (VR b3) (VR b6) (VI 60) (VI 60) (VR qb94) [(.ref qb94)])) rfl (B at_360) (by decide) (by decide)
  obtain ⟨b104, g104⟩ : ∃ z, z = T94.heap.size := ⟨_, rfl⟩
  rw [← g104] at A104 D104 U104 st104
  have gn104 : n0 ≤ b104 := Nat.le_trans (own_sz Ol99) (Nat.le_of_eq g104.symm)
  have neb3_104 : b3 ≠ b104 := Nat.ne_of_lt (Nat.lt_of_lt_of_le f100.lt (Nat.le_of_eq g104.symm))
  have neb6_104 : b6 ≠ b104 := Nat.ne_of_lt (Nat.lt_of_lt_of_le f101.lt (Nat.le_of_eq g104.symm))
  have neb86_104 : b86 ≠ b104 := Nat.ne_of_lt (Nat.lt_of_lt_of_le f102.lt (Nat.le_of_eq g104.symm))
  have netI_104 : tI ≠ b104 := Nat.ne_of_lt (Nat.lt_of_lt_of_le f103.lt (Nat.le_of_eq g104.symm))
  have neqb94_104 : qb94 ≠ b104 := Nat.ne_of_lt (Nat.lt_of_lt_of_le sEQ.lt (Nat.le_of_eq g104.symm))
  have netQ_104 : tQ ≠ b104 := Nat.ne_of_lt (Nat.lt_of_lt_of_le sAQ.lt (Nat.le_of_eq g104.symm))
  have Y104 := Safe.ext E104 CH98.1 (Safe.new (x := b104) (Nat.le_of_eq g104.symm))
  have CH105 := CH98.trans (CHr.ext E104 CH98.1)
  have hk105 := Nat.le_trans hk94 E104.1
  have Ol106 := Ol99.ext E104
  have Fcoder_104 : Fld Z h104 b104 "java/lang/String" "coder" "B" (.int (0 : Int32)) := D104 (Or.inr (ow38 hw)) (ty := .byte) (by decide)
  have Fvalue_104 : Fld Z h104 b104 "java/lang/String" "value" "[B" .null := D104 (Or.inr (ow40 hw)) (ty := (.array .byte)) (by decide)
  have f107 := (f101.ext E104)
  obtain ⟨_, _, ⟨T108, L108, k108, n108⟩, -, X108, ⟨Lc108, hQ108, l108, y108, z108⟩, st108⟩ := X104.specialBack hx (y := my1) rfl hown94 (mvT hZ94 (ow15 hw)) (mvT hZ94 (ow16 hw)) (mvT hZ94 (ow17 hw)) (by decide) (StrChars.Road.backV (W := 2) hZ94 (own_ws hw) (kI := 4) (ow13 hw) (cs := (List.set cs75 61 (34 : Int32))) (bs := List.map (fun c => c.toInt8.toInt32) (List.set cs75 61 (34 : Int32))) (n := 62) gn104 (own_sz Ol106) A104 Fvalue_104 Fcoder_104 f107 (O2.ext Ol106.2) P5 (by rw [List.length_set]; exact lc75) rfl (by decide) (by decide) (own_setb bc75 61 (by decide)) rfl (by decide) (by decide)) (g := (FL m x0 x1 x2 x3 x4 x5 366 (VI 5) (VR b3) (VR b6) (VI 60) (VI 60) (VR qb94) [(.ref b6), (.ref b104), (.ref b104), (.ref qb94)])) rfl (by rw [hml]; rfl) (Steps.refl _) (a := b104) (argsL := [(.ref b6)]) (rest := [(.ref b104), (.ref qb94)]) (lenOf pd28 rfl) rfl (w0 rfl rfl) (B at_366) (fun _ _ => ⟨rfl, e104, (by decide : 15 + 1 ≤ _), (by decide : 895 + 62 ≤ _)⟩)
  dsimp only [Pt.U, Pt.locs, Pt.cells, Pt.slots] at X108 l108 y108 z108 st108 hQ108
  rw [l108, y108, z108] at X108
  obtain ⟨rfl, Nq108, kp108, sE108, sC108, t108, k108_, -, -, -, sV108, sA108⟩ := hQ108
  have ln108 : List.length (List.set cs75 61 (34 : Int32)) = 62 := (by rw [List.length_set]; exact lc75)
  have Sp108 : StrP Z _ b104 (List.set cs75 61 (34 : Int32)) := ⟨sE108, sC108, (own_setb bc75 61 (by decide)), (by rw [ln108]; decide), t108, k108_, sV108, (by rw [ln108]; exact sA108)⟩
  have N109 := Fr.app N95 Nq108
  have CH110 := CH105.trans (CHr.keep kp108 (sfS Y104 sf0) CH105.1)
  have hk110 := Nat.le_trans hk105 kp108.1
  have Ol111 := Ol106.keep kp108 (allS gn104 all0)
  obtain ⟨sEO, sCO, spO, slO, tO, skO, sVO, sAO⟩ := id Sp108
  have f112 := ((sEQ.ext E104).keep kp108)
  have f113 := ((sVQ.ext E104).keep kp108 (ninS neqb94_104 nin0))
  have f114 := ((sCQ.ext E104).keep kp108 (ninS neqb94_104 nin0))
  have f115 := ((sAQ.ext E104).keep kp108 (ninS netQ_104 nin0))
  obtain ⟨cq116, kq116, q116a, q116b, q116c⟩ := isOf hZ94 rfl f112
  obtain ⟨_, _, ⟨T116, L116, k116, n116⟩, -, X116, ⟨Lc116, hQ116, l116, y116, z116⟩, st116⟩ := X108.virtualBack hx (y := my36) (z := my36) hown94 (mvT hZ94 (ow156 hw)) (mvT hZ94 (ow157 hw)) (notFace_of_selects (args := #[]) (mvT hZ94 (ow159 hw))) (mvT hZ94 (ow159 hw)) (mvT hZ94 (ow158 hw)) (by decide) (StrChars.Road.eqW (W := 0) hZ94 (own_weq hw) (kI := 4) (ow13 hw) f112 f113 f114 f115 (StrChars.Road.codOf rfl (fun c hc => (spQ c hc).2)) (own_up _ spQ) slQ sEO sVO sCO sAO (StrChars.Road.codOf rfl (fun c hc => (spO c hc).2)) (own_up _ spO) slO (O2.ext Ol111.2) P5 (by decide) (by decide)) q116a q116c (g := (FL m x0 x1 x2 x3 x4 x5 369 (VI 5) (VR b3) (VR b6) (VI 60) (VI 60) (VR qb94) [(.ref b104), (.ref qb94)])) rfl (by rw [hml]; rfl) (Steps.refl _) (argsL := [(.ref b104)]) (rest := []) (lenOf pd30 rfl) rfl (w0 rfl rfl) (B at_369) (fun _ _ => ⟨rfl, rfl, (by decide : 16 + 0 ≤ _), (by decide : 957 + 0 ≤ _)⟩)
  dsimp only [Pt.U, Pt.locs, Pt.cells, Pt.slots] at X116 l116 y116 z116 st116 hQ116
  rw [l116, y116, z116] at X116
  obtain ⟨hor116, hL116, eq116⟩ := hQ116
  obtain rfl := own_eqv hor116
  have Nq116 := own_frn hL116 n0
  have N117 := Fr.app N109 Nq116
  have hAB : (qs cs35) = (List.set cs75 61 (34 : Int32)) := by rw [hcs75, hcs67, hcs61, hcs55, hcs49, hcs35, hcs28, hcs23, hcs18, hcs13]; rfl
  have pre118 : ∀ tgt, Steps p.tables e below (T116.setTop (FL m x0 x1 x2 x3 x4 x5 372 (VI 5) (VR b3) (VR b6) (VI 60) (VI 60) (VR qb94) [(.int (if (qs cs35) = (List.set cs75 61 (34 : Int32)) then (1 : Int32) else (0 : Int32)))])) tgt → Steps p.tables e below (s₁.setTop (entryFrame m #[(.int x0), (.int x1), (.int x2), (.int x3), (.int x4), (.int x5)] maxLocals)) tgt := by
    intro tgt kgo
    refine pre2 _ ?_
    refine XS.iload X0.here hx rfl (B at_7) rfl ?_
    refine XS.ifYes X0.here hx rfl (pc0 := 9) (pc' := 25) rfl (B at_9) rfl ((if0 _ _).trans (feq (by decide : ¬ ((5 : Int32) = (0 : Int32)))).2) (by decide) (by decide) ?_
    show GO p e below s₁ (FL m x0 x1 x2 x3 x4 x5 25 (VI 5) .unset .unset .unset .unset .unset []) _
    refine XS.iload X0.here hx rfl (B at_25) rfl ?_
    refine XS.iconst X0.here hx rfl (B at_27) ?_
    refine XS.icmpYes X0.here hx rfl (pc0 := 28) (pc' := 44) rfl (B at_28) rfl (feq (by decide : ¬ ((5 : Int32) = (1 : Int32)))).2 (by decide) (by decide) ?_
    show GO p e below s₁ (FL m x0 x1 x2 x3 x4 x5 44 (VI 5) .unset .unset .unset .unset .unset []) _
    refine XS.iload X0.here hx rfl (B at_44) rfl ?_
    refine XS.iconst X0.here hx rfl (B at_46) ?_
    refine XS.icmpYes X0.here hx rfl (pc0 := 47) (pc' := 63) rfl (B at_47) rfl (feq (by decide : ¬ ((5 : Int32) = (2 : Int32)))).2 (by decide) (by decide) ?_
    show GO p e below s₁ (FL m x0 x1 x2 x3 x4 x5 63 (VI 5) .unset .unset .unset .unset .unset []) _
    refine XS.iload X0.here hx rfl (B at_63) rfl ?_
    refine XS.iconst X0.here hx rfl (B at_65) ?_
    refine XS.icmpYes X0.here hx rfl (pc0 := 66) (pc' := 82) rfl (B at_66) rfl (feq (by decide : ¬ ((5 : Int32) = (3 : Int32)))).2 (by decide) (by decide) ?_
    show GO p e below s₁ (FL m x0 x1 x2 x3 x4 x5 82 (VI 5) .unset .unset .unset .unset .unset []) _
    refine XS.iload X0.here hx rfl (B at_82) rfl ?_
    refine XS.iconst X0.here hx rfl (B at_84) ?_
    refine XS.icmpYes X0.here hx rfl (pc0 := 85) (pc' := 103) rfl (B at_85) rfl (feq (by decide : ¬ ((5 : Int32) = (4 : Int32)))).2 (by decide) (by decide) ?_
    show GO p e below s₁ (FL m x0 x1 x2 x3 x4 x5 103 (VI 5) .unset .unset .unset .unset .unset []) _
    refine XS.iload X0.here hx rfl (B at_103) rfl ?_
    refine XS.iconst X0.here hx rfl (B at_105) ?_
    refine XS.icmpNo X0.here hx rfl (B at_106) rfl (teq (by decide : (5 : Int32) = (5 : Int32))).2 ?_
    show GO p e below s₁ (FL m x0 x1 x2 x3 x4 x5 109 (VI 5) .unset .unset .unset .unset .unset []) _
    refine XS.bipush X0.here hx rfl (B at_109) ?_
    refine st3 _ ?_
    show GO p e below T3 (FL m x0 x1 x2 x3 x4 x5 113 (VI 5) .unset .unset .unset .unset .unset [(.ref b3)]) _
    refine XS.astore X3.here hx rfl (B at_113) rfl rfl (l' := #[.val (.int x0), .val (.int x1), .val (.int x2), .val (.int x3), .val (.int x4), .val (.int x5), .val (.int (5 : Int32)), .val (.ref b3), .unset, .unset, .unset, .unset]) rfl ?_
    refine XS.bipush X3.here hx rfl (B at_115) ?_
    refine st6 _ ?_
    show GO p e below T6 (FL m x0 x1 x2 x3 x4 x5 119 (VI 5) (VR b3) .unset .unset .unset .unset [(.ref b6)]) _
    refine XS.astore X6.here hx rfl (B at_119) rfl rfl (l' := #[.val (.int x0), .val (.int x1), .val (.int x2), .val (.int x3), .val (.int x4), .val (.int x5), .val (.int (5 : Int32)), .val (.ref b3), .val (.ref b6), .unset, .unset, .unset]) rfl ?_
    refine XS.goto X6.here hx rfl (pc0 := 121) (pc' := 158) rfl (B at_121) (by decide) (by decide) ?_
    refine XS.aload X6.here hx rfl (B at_158) rfl rfl ?_
    refine X6.arraylength hx (by rw [e6]; exact Ar12.1) (State.isArrayOf_alike hZ.alike Ar12.2.1) (g := (mkF m 160 #[.val (.int x0), .val (.int x1), .val (.int x2), .val (.int x3), .val (.int x4), .val (.int x5), .val (.int (5 : Int32)), .val (.ref b3), .val (.ref b6), .unset, .unset, .unset] [(.ref b3)])) rfl rfl (B at_160) _ ?_
    rw [len_of S12 M12]
    show GO p e below T6 (FL m x0 x1 x2 x3 x4 x5 161 (VI 5) (VR b3) (VR b6) .unset .unset .unset [(.int 60)]) _
    refine XS.istore X6.here hx rfl (B at_161) rfl (l' := #[.val (.int x0), .val (.int x1), .val (.int x2), .val (.int x3), .val (.int x4), .val (.int x5), .val (.int (5 : Int32)), .val (.ref b3), .val (.ref b6), .val (.int (60 : Int32)), .unset, .unset]) rfl ?_
    refine XS.aload X6.here hx rfl (B at_163) rfl rfl ?_
    refine XS.iconst X6.here hx rfl (B at_165) ?_
    refine XS.iloadN X6.here hx rfl (B at_166) rfl ?_
    refine st13 _ ?_
    show GO p e below T13 (FL m x0 x1 x2 x3 x4 x5 170 (VI 5) (VR b3) (VR b6) (VI 60) .unset .unset []) _
    refine XS.aload X13.here hx rfl (B at_170) rfl rfl ?_
    refine XS.iconst X13.here hx rfl (B at_172) ?_
    refine XS.iloadN X13.here hx rfl (B at_173) rfl ?_
    refine st18 _ ?_
    show GO p e below T18 (FL m x0 x1 x2 x3 x4 x5 177 (VI 5) (VR b3) (VR b6) (VI 60) .unset .unset []) _
    refine XS.aload X18.here hx rfl (B at_177) rfl rfl ?_
    refine XS.bipush X18.here hx rfl (B at_179) ?_
    refine XS.iloadN X18.here hx rfl (B at_181) rfl ?_
    refine st23 _ ?_
    show GO p e below T23 (FL m x0 x1 x2 x3 x4 x5 185 (VI 5) (VR b3) (VR b6) (VI 60) .unset .unset []) _
    refine XS.aload X23.here hx rfl (B at_185) rfl rfl ?_
    refine XS.bipush X23.here hx rfl (B at_187) ?_
    refine XS.iloadN X23.here hx rfl (B at_189) rfl ?_
    refine st28 _ ?_
    show GO p e below T28 (FL m x0 x1 x2 x3 x4 x5 193 (VI 5) (VR b3) (VR b6) (VI 60) .unset .unset []) _
    refine XS.aload X28.here hx rfl (B at_193) rfl rfl ?_
    refine XS.bipush X28.here hx rfl (B at_195) ?_
    refine XS.iload X28.here hx rfl (B at_197) rfl ?_
    refine st33 _ ?_
    show GO p e below T33 (FL m x0 x1 x2 x3 x4 x5 202 (VI 5) (VR b3) (VR b6) (VI 60) .unset .unset []) _
    refine XS.aload X33.here hx rfl (B at_202) rfl rfl ?_
    refine XS.iload X33.here hx rfl (B at_204) rfl ?_
    refine XS.iconst X33.here hx rfl (B at_206) ?_
    refine XS.isub X33.here hx rfl (B at_207) rfl ?_
    refine XS.iload X33.here hx rfl (B at_208) rfl ?_
    refine XS.bipush X33.here hx rfl (B at_210) ?_
    refine XS.iushr X33.here hx rfl (B at_212) rfl ?_
    refine st35 _ ?_
    show GO p e below T35 (FL m x0 x1 x2 x3 x4 x5 216 (VI 5) (VR b3) (VR b6) (VI 60) .unset .unset []) _
    refine XS.iload X35.here hx rfl (B at_216) rfl ?_
    refine XS.bipush X35.here hx rfl (B at_218) ?_
    refine st40 _ ?_
    show GO p e below T40 (FL m x0 x1 x2 x3 x4 x5 223 (VI 5) (VR b3) (VR b6) (VI 60) .unset .unset [(.int 60)]) _
    refine XS.istore X40.here hx rfl (B at_223) rfl (l' := #[.val (.int x0), .val (.int x1), .val (.int x2), .val (.int x3), .val (.int x4), .val (.int x5), .val (.int (5 : Int32)), .val (.ref b3), .val (.ref b6), .val (.int (60 : Int32)), .val (.int (60 : Int32)), .unset]) rfl ?_
    refine XS.aload X40.here hx rfl (B at_225) rfl rfl ?_
    refine XS.iconst X40.here hx rfl (B at_227) ?_
    refine XS.bipush X40.here hx rfl (B at_228) ?_
    refine st44 _ ?_
    show GO p e below T44 (FL m x0 x1 x2 x3 x4 x5 231 (VI 5) (VR b3) (VR b6) (VI 60) (VI 60) .unset []) _
    refine XS.aload X44.here hx rfl (B at_231) rfl rfl ?_
    refine XS.aload X44.here hx rfl (B at_233) rfl rfl ?_
    refine XS.iconst X44.here hx rfl (B at_235) ?_
    refine XS.iload X44.here hx rfl (B at_236) rfl ?_
    refine st49 _ ?_
    show GO p e below T49 (FL m x0 x1 x2 x3 x4 x5 241 (VI 5) (VR b3) (VR b6) (VI 60) (VI 60) .unset []) _
    refine XS.aload X49.here hx rfl (B at_241) rfl rfl ?_
    refine XS.aload X49.here hx rfl (B at_243) rfl rfl ?_
    refine XS.iconst X49.here hx rfl (B at_245) ?_
    refine XS.iload X49.here hx rfl (B at_246) rfl ?_
    refine st55 _ ?_
    show GO p e below T55 (FL m x0 x1 x2 x3 x4 x5 251 (VI 5) (VR b3) (VR b6) (VI 60) (VI 60) .unset []) _
    refine XS.aload X55.here hx rfl (B at_251) rfl rfl ?_
    refine XS.aload X55.here hx rfl (B at_253) rfl rfl ?_
    refine XS.bipush X55.here hx rfl (B at_255) ?_
    refine XS.iload X55.here hx rfl (B at_257) rfl ?_
    refine st61 _ ?_
    show GO p e below T61 (FL m x0 x1 x2 x3 x4 x5 262 (VI 5) (VR b3) (VR b6) (VI 60) (VI 60) .unset []) _
    refine XS.aload X61.here hx rfl (B at_262) rfl rfl ?_
    refine XS.aload X61.here hx rfl (B at_264) rfl rfl ?_
    refine XS.bipush X61.here hx rfl (B at_266) ?_
    refine XS.iload X61.here hx rfl (B at_268) rfl ?_
    refine st67 _ ?_
    show GO p e below T67 (FL m x0 x1 x2 x3 x4 x5 273 (VI 5) (VR b3) (VR b6) (VI 60) (VI 60) .unset []) _
    refine XS.aload X67.here hx rfl (B at_273) rfl rfl ?_
    refine XS.aload X67.here hx rfl (B at_275) rfl rfl ?_
    refine XS.bipush X67.here hx rfl (B at_277) ?_
    refine XS.iload X67.here hx rfl (B at_279) rfl ?_
    refine st72 _ ?_
    show GO p e below T72 (FL m x0 x1 x2 x3 x4 x5 284 (VI 5) (VR b3) (VR b6) (VI 60) (VI 60) .unset []) _
    refine XS.aload X72.here hx rfl (B at_284) rfl rfl ?_
    refine XS.aload X72.here hx rfl (B at_286) rfl rfl ?_
    refine XS.iload X72.here hx rfl (B at_288) rfl ?_
    refine XS.iconst X72.here hx rfl (B at_290) ?_
    refine XS.isub X72.here hx rfl (B at_291) rfl ?_
    refine XS.iload X72.here hx rfl (B at_292) rfl ?_
    refine st75 _ ?_
    show GO p e below T75 (FL m x0 x1 x2 x3 x4 x5 297 (VI 5) (VR b3) (VR b6) (VI 60) (VI 60) .unset []) _
    refine XS.iload X75.here hx rfl (B at_297) rfl ?_
    refine XS.bipush X75.here hx rfl (B at_299) ?_
    refine XS.icmpYes X75.here hx rfl (pc0 := 301) (pc' := 335) rfl (B at_301) rfl (flt (by decide : ¬ ((60 : Int32) < (60 : Int32)))).2.2.2 (by decide) (by decide) ?_
    show GO p e below T75 (FL m x0 x1 x2 x3 x4 x5 335 (VI 5) (VR b3) (VR b6) (VI 60) (VI 60) .unset []) _
    refine XS.aload X75.here hx rfl (B at_335) rfl rfl ?_
    refine XS.iload X75.here hx rfl (B at_337) rfl ?_
    refine XS.iconst X75.here hx rfl (B at_339) ?_
    refine XS.iadd X75.here hx rfl (B at_340) rfl ?_
    refine XS.bipush X75.here hx rfl (B at_341) ?_
    refine st81 _ ?_
    show GO p e below T81 (FL m x0 x1 x2 x3 x4 x5 344 (VI 5) (VR b3) (VR b6) (VI 60) (VI 60) .unset []) _
    refine st86 _ ?_
    show GO p e below T86 (FL m x0 x1 x2 x3 x4 x5 347 (VI 5) (VR b3) (VR b6) (VI 60) (VI 60) .unset [(.ref b86)]) _
    refine XS.dup X86.here hx rfl (B at_347) rfl rfl ?_
    refine XS.aload X86.here hx rfl (B at_348) rfl rfl ?_
    refine st90.trans ?_
    show GO p e below T90 (FL m x0 x1 x2 x3 x4 x5 353 (VI 5) (VR b3) (VR b6) (VI 60) (VI 60) .unset [(.ref b86)]) _
    refine st94.trans ?_
    show GO p e below T94 (FL m x0 x1 x2 x3 x4 x5 356 (VI 5) (VR b3) (VR b6) (VI 60) (VI 60) .unset [(.ref qb94)]) _
    refine XS.astore X94.here hx rfl (B at_356) rfl rfl (l' := #[.val (.int x0), .val (.int x1), .val (.int x2), .val (.int x3), .val (.int x4), .val (.int x5), .val (.int (5 : Int32)), .val (.ref b3), .val (.ref b6), .val (.int (60 : Int32)), .val (.int (60 : Int32)), .val (.ref qb94)]) rfl ?_
    refine XS.aload X94.here hx rfl (B at_358) rfl rfl ?_
    refine st104 _ ?_
    show GO p e below T104 (FL m x0 x1 x2 x3 x4 x5 363 (VI 5) (VR b3) (VR b6) (VI 60) (VI 60) (VR qb94) [(.ref b104), (.ref qb94)]) _
    refine XS.dup X104.here hx rfl (B at_363) rfl rfl ?_
    refine XS.aload X104.here hx rfl (B at_364) rfl rfl ?_
    refine st108.trans ?_
    show GO p e below T108 (FL m x0 x1 x2 x3 x4 x5 369 (VI 5) (VR b3) (VR b6) (VI 60) (VI 60) (VR qb94) [(.ref b104), (.ref qb94)]) _
    refine st116.trans ?_
    show GO p e below T116 (FL m x0 x1 x2 x3 x4 x5 372 (VI 5) (VR b3) (VR b6) (VI 60) (VI 60) (VR qb94) [(.int (if (qs cs35) = (List.set cs75 61 (34 : Int32)) then (1 : Int32) else (0 : Int32)))]) _
    exact kgo
  have pre119 : ∀ tgt, Steps p.tables e below (T116.setTop (FL m x0 x1 x2 x3 x4 x5 372 (VI 5) (VR b3) (VR b6) (VI 60) (VI 60) (VR qb94) [(.int 1)])) tgt → Steps p.tables e below (s₁.setTop (entryFrame m #[(.int x0), (.int x1), (.int x2), (.int x3), (.int x4), (.int x5)] maxLocals)) tgt := by
    have q := pre118
    rw [if_pos hAB] at q
    exact q
  obtain ⟨fs, hretL, hrun, hended, hEnd⟩ := Stand.leaveW X116 hS94 (by rw [eq116]; exact hk110) (v := some (.int (1 : Int32))) (fun h => by rw [Bd.returns] at h; cases h)
  have hCf : CHr Z EL0 s.vm s.heap T116.vm T116.heap := by rw [hh, eq116]; exact CH110.trans (CHv.at X116 hZ94 (own_EW hw) CH110.1)
  refine ⟨_, _, pre119 _ ?_, hrun, hended, _, _, rfl, ?_, hCf, hEnd.1, hEnd.2.1, hEnd.2.2.1, hEnd.2.2.2.mono (by decide) (by decide)⟩
  · exact retOut X116 hx Bd.returns rfl (Or.inl ⟨rfl, Or.inr (Or.inl rfl), _, rfl⟩) (B at_372) hretL
  · show Q_rm0k5 Z x0 x1 x2 x3 x4 x5 G1 fm h0 n0 _ T116.heap _
    rw [eq116]
    exact ⟨rfl, N117⟩
def Q_rm0k6 (Z : State) (x0 : Int32) (x1 : Int32) (x2 : Int32) (x3 : Int32) (x4 : Int32) (x5 : Int32) (G1 : Int32) (fm : Value) (h0 : Heap) (n0 : Nat) (v : Option Value) (h : Heap) (L : List Loc) : Prop := v = some (.int (1 : Int32)) ∧ Fr n0 L
set_option maxRecDepth 65536 in
set_option maxHeartbeats 40000000 in
theorem rm0k6 (l : Launch) (Z : State) (a0 : Array Value) (hw : HW a0 Z) (ws : List Jvm.Cond) (x0 : Int32) (x1 : Int32) (x2 : Int32) (x3 : Int32) (x4 : Int32) (x5 : Int32) (G1 : Int32) (fm : Value) (h0 : Heap) (n0 : Nat) (O0 : Old Z n0 h0) (hkc : (x5 &&& (7 : Int32)) = (6 : Int32)) (O2 : Sta Z Z.heap "java/lang/String" "COMPACT_STRINGS" "Z" (.int G1)) (P5 : ¬ (G1 = (0 : Int32))) (O4 : Sta Z Z.heap "jdk/internal/util/Preconditions" "SIOOBE_FORMATTER" "Ljava/util/function/BiFunction;" fm) (rf : fm.isRef = true) :
    MetFree l x (head1 (Jvm.Cond.code x code maxLocals ret :: ws) room_1) (fun aa U => aa = #[(.int x0), (.int x1), (.int x2), (.int x3), (.int x4), (.int x5)] ∧ Z.Warmed39 U.vm ∧ U.heap = h0 ∧ CHv Z EL0 U.vm h0) (fun _ _ _ _ _ => True) (fun _ U o U' => ∃ v L, o = .returned v ∧ Q_rm0k6 Z x0 x1 x2 x3 x4 x5 G1 fm h0 n0 v U'.heap L ∧ CHr Z EL0 U.vm U.heap U'.vm U'.heap ∧ ReturnedEndW U o U' L 26 1745) := by
  refine MetFree.of_bodySF (plainFor_of_name pn8) hisR ?_
  intro p e s m args below meth c s₁ Bd hml0 hP hK
  obtain ⟨rfl, hZ, hh, hCH⟩ := hP
  have hx := Bd.exec
  have hby := Bd.bytes
  have B := fun {pc : Nat} {r} (h : decode code pc = r) => hb hby h
  have hml : c.maxLocals = 12 := hml0
  have hown : s.vm.findClass "com/example/atropos/atropos/io/CurveTextQuotePinLaw" = some m.cls := findClass_of_methodNamed Bd.named
  have hnm := (name_of_methodNamed Bd.named Bd.method).1
  have X0 : Stand p l e room_1 (s.setVm s.vm) m #[(.int x0), (.int x1), (.int x2), (.int x3), (.int x4), (.int x5)] below meth c s₁ [] 0 0 := Stand.of_body Bd
  have e0 : s₁.heap = h0 := by rw [← hh, Bd.state]; rfl
  have N0 := Fr.nil n0
  have pre0 : ∀ tgt, Steps p.tables e below (s₁.setTop (mkF m 0 #[.val (.int x0), .val (.int x1), .val (.int x2), .val (.int x3), .val (.int x4), .val (.int x5), .unset, .unset, .unset, .unset, .unset, .unset] [])) tgt → Steps p.tables e below (s₁.setTop (entryFrame m #[(.int x0), (.int x1), (.int x2), (.int x3), (.int x4), (.int x5)] maxLocals)) tgt := fun tgt kgo => castTop (ef_rm0k0 m x0 x1 x2 x3 x4 x5) kgo
  have hS0 : s.Since s.vm 0 := (State.WarmedH.refl s).since 0
  have hk0 : 0 ≤ h0.size := Nat.zero_le _
  have CH0 : CHr Z EL0 s.vm h0 s.vm h0 := CHr.refl hCH
  have pre1 : ∀ tgt, Steps p.tables e below (s₁.setTop (FL m x0 x1 x2 x3 x4 x5 7 (VI (x5 &&& (7 : Int32))) .unset .unset .unset .unset .unset [])) tgt → Steps p.tables e below (s₁.setTop (entryFrame m #[(.int x0), (.int x1), (.int x2), (.int x3), (.int x4), (.int x5)] maxLocals)) tgt := by
    intro tgt kgo
    refine pre0 _ ?_
    refine XS.iload X0.here hx rfl (B at_0) rfl ?_
    refine XS.bipush X0.here hx rfl (B at_2) ?_
    refine XS.iand X0.here hx rfl (B at_4) rfl ?_
    refine XS.istore X0.here hx rfl (B at_5) rfl (l' := #[.val (.int x0), .val (.int x1), .val (.int x2), .val (.int x3), .val (.int x4), .val (.int x5), .val (.int (x5 &&& (7 : Int32))), .unset, .unset, .unset, .unset, .unset]) rfl ?_
    exact kgo
  have pre2 : ∀ tgt, Steps p.tables e below (s₁.setTop (FL m x0 x1 x2 x3 x4 x5 7 (VI 6) .unset .unset .unset .unset .unset [])) tgt → Steps p.tables e below (s₁.setTop (entryFrame m #[(.int x0), (.int x1), (.int x2), (.int x3), (.int x4), (.int x5)] maxLocals)) tgt := by
    have q := pre1
    rw [hkc] at q
    exact q
  obtain ⟨T3, h3, k3, X3, e3, E3, A3, st3⟩ := newP (aty := .char) X0 hx hZ (ow0 hw) e0 (g := (FL m x0 x1 x2 x3 x4 x5 133 (VI 6) .unset .unset .unset .unset .unset [(.int 61)])) rfl (B at_133) rfl (by decide) (cap := 61) (by decide) (by decide) (by decide) (by decide)
  obtain ⟨b3, g3⟩ : ∃ z, z = h0.size := ⟨_, rfl⟩
  rw [← g3] at A3 st3
  have V3 : Arv Z h3 b3 k3 .char (61 : Int32) (List.replicate 61 (.int (0 : Int32))) (.int (0 : Int32)) := (Arv.new A3 (by decide)).pad (pad_rep [] (.int (0 : Int32)) 61)
  have gn3 : n0 ≤ b3 := Nat.le_trans (own_sz O0) (Nat.le_of_eq g3.symm)
  have Y3 := Safe.ext E3 CH0.1 (Safe.new (x := b3) (Nat.le_of_eq g3.symm))
  have CH4 := CH0.trans (CHr.ext E3 CH0.1)
  have hk4 := Nat.le_trans hk0 E3.1
  have Ol5 := O0.ext E3
  obtain ⟨T6, h6, k6, X6, e6, E6, A6, st6⟩ := newP (aty := .char) X3 hx hZ (ow0 hw) e3 (g := (FL m x0 x1 x2 x3 x4 x5 139 (VI 6) (VR b3) .unset .unset .unset .unset [(.int 65)])) rfl (B at_139) rfl (by decide) (cap := 65) (by decide) (by decide) (by decide) (by decide)
  obtain ⟨b6, g6⟩ : ∃ z, z = h3.size := ⟨_, rfl⟩
  rw [← g6] at A6 st6
  have V6 : Arv Z h6 b6 k6 .char (65 : Int32) (List.replicate 65 (.int (0 : Int32))) (.int (0 : Int32)) := (Arv.new A6 (by decide)).pad (pad_rep [] (.int (0 : Int32)) 65)
  have gn6 : n0 ≤ b6 := Nat.le_trans (own_sz Ol5) (Nat.le_of_eq g6.symm)
  have neb3_6 : b3 ≠ b6 := Nat.ne_of_lt (Nat.lt_of_lt_of_le V3.lt (Nat.le_of_eq g6.symm))
  have Y6 := Safe.ext E6 CH4.1 (Safe.new (x := b6) (Nat.le_of_eq g6.symm))
  have CH7 := CH4.trans (CHr.ext E6 CH4.1)
  have hk7 := Nat.le_trans hk4 E6.1
  have Ol8 := Ol5.ext E6
  have f10 := (V3.ext E6)
  have Vm9 : Arv Z h6 b3 k3 .char (61 : Int32) (List.map Value.int (List.replicate 61 (0 : Int32))) (.int (0 : Int32)) := by have q := f10; rw [List.map_replicate]; exact q
  have Vm11 : Arv Z h6 b6 k6 .char (65 : Int32) (List.map Value.int (List.replicate 65 (0 : Int32))) (.int (0 : Int32)) := by have q := V6; rw [List.map_replicate]; exact q
  obtain ⟨cl12, Ar12, q12, S12, M12, H12, G12⟩ := id Vm9
  obtain ⟨_, _, ⟨T13, L13, k13, n13⟩, -, X13, ⟨Lc13, hQ13, l13, y13, z13⟩, st13⟩ := Jvm.LawKit.callS X6 hx (y := my34) hown (mvT hZ (ow1 hw)) (mvT hZ (ow2 hw)) (mvT hZ (ow3 hw)) (mvT hZ (ow4 hw)) (by decide) (backOf (W := 0) (rmpi l Z a0 hw [] b3 (0 : Int32) x0 k3 (List.replicate 61 (0 : Int32)) 0 61 h6 n0 Ol8 Vm9 (by simp only [List.length_replicate]) rfl (by decide) (by decide) gn3) hZ (ow4 hw) (ow3 hw) (by decide) (by decide)) (g := (FL m x0 x1 x2 x3 x4 x5 167 (VI 6) (VR b3) (VR b6) (VI 61) .unset .unset [(.int x0), (.int 0), (.ref b3)])) rfl (by rw [hml]; rfl) (argsL := [(.ref b3), (.int 0), (.int x0)]) (rest := []) (lenOf pd26 rfl) rfl (w0 rfl rfl) (B at_167) (fun _ _ => ⟨rfl, e6, (by decide : 2 + 0 ≤ _), (by decide : 126 + 0 ≤ _)⟩)
  dsimp only [Pt.U, Pt.locs, Pt.cells, Pt.slots] at X13 l13 y13 z13 st13 hQ13
  rw [l13, y13, z13] at X13
  obtain ⟨rfl, Nq13, kp13, na13⟩ := hQ13
  have N14 := Fr.app N0 Nq13
  have f15 := (Safe.ext E6 CH4.1 Y3)
  have CH16 := CH7.trans (CHr.keep kp13 (sfS f15 sf0) CH7.1)
  have hk16 := Nat.le_trans hk7 kp13.1
  have Ol17 := Ol8.keep kp13 (allS gn3 all0)
  obtain ⟨cs13, hcs13⟩ : ∃ z, z = List.set (List.replicate 61 (0 : Int32)) 0 (x0 &&& (255 : Int32)) := ⟨_, rfl⟩
  rw [← hcs13] at na13
  have lc13 : List.length cs13 = 61 := by rw [hcs13, List.length_set]; exact (by simp only [List.length_replicate])
  have bc13 : Byt cs13 := by rw [hcs13]; exact own_setb (own_rep0 61) 0 (own_a255 _)
  obtain ⟨_, _, ⟨T18, L18, k18, n18⟩, -, X18, ⟨Lc18, hQ18, l18, y18, z18⟩, st18⟩ := Jvm.LawKit.callS X13 hx (y := my34) hown (mvT hZ (ow1 hw)) (mvT hZ (ow2 hw)) (mvT hZ (ow3 hw)) (mvT hZ (ow4 hw)) (by decide) (backOf (W := 0) (rmpi l Z a0 hw [] b3 (1 : Int32) x1 k3 cs13 1 61 T13.heap n0 Ol17 na13 lc13 rfl (by decide) (by decide) gn3) hZ (ow4 hw) (ow3 hw) (by decide) (by decide)) (g := (FL m x0 x1 x2 x3 x4 x5 174 (VI 6) (VR b3) (VR b6) (VI 61) .unset .unset [(.int x1), (.int 1), (.ref b3)])) rfl (by rw [hml]; rfl) (argsL := [(.ref b3), (.int 1), (.int x1)]) (rest := []) (lenOf pd26 rfl) rfl (w0 rfl rfl) (B at_174) (fun _ _ => ⟨rfl, rfl, (by decide : 2 + 0 ≤ _), (by decide : 126 + 0 ≤ _)⟩)
  dsimp only [Pt.U, Pt.locs, Pt.cells, Pt.slots] at X18 l18 y18 z18 st18 hQ18
  rw [l18, y18, z18] at X18
  obtain ⟨rfl, Nq18, kp18, na18⟩ := hQ18
  have N19 := Fr.app N14 Nq18
  have f20 := (Safe.keep kp13 (sfS f15 sf0) CH7.1 f15)
  have CH21 := CH16.trans (CHr.keep kp18 (sfS f20 sf0) CH16.1)
  have hk21 := Nat.le_trans hk16 kp18.1
  have Ol22 := Ol17.keep kp18 (allS gn3 all0)
  obtain ⟨cs18, hcs18⟩ : ∃ z, z = List.set cs13 1 (x1 &&& (255 : Int32)) := ⟨_, rfl⟩
  rw [← hcs18] at na18
  have lc18 : List.length cs18 = 61 := by rw [hcs18, List.length_set]; exact lc13
  have bc18 : Byt cs18 := by rw [hcs18]; exact own_setb bc13 1 (own_a255 _)
  obtain ⟨_, _, ⟨T23, L23, k23, n23⟩, -, X23, ⟨Lc23, hQ23, l23, y23, z23⟩, st23⟩ := Jvm.LawKit.callS X18 hx (y := my34) hown (mvT hZ (ow1 hw)) (mvT hZ (ow2 hw)) (mvT hZ (ow3 hw)) (mvT hZ (ow4 hw)) (by decide) (backOf (W := 0) (rmpi l Z a0 hw [] b3 (58 : Int32) x2 k3 cs18 58 61 T18.heap n0 Ol22 na18 lc18 rfl (by decide) (by decide) gn3) hZ (ow4 hw) (ow3 hw) (by decide) (by decide)) (g := (FL m x0 x1 x2 x3 x4 x5 182 (VI 6) (VR b3) (VR b6) (VI 61) .unset .unset [(.int x2), (.int 58), (.ref b3)])) rfl (by rw [hml]; rfl) (argsL := [(.ref b3), (.int 58), (.int x2)]) (rest := []) (lenOf pd26 rfl) rfl (w0 rfl rfl) (B at_182) (fun _ _ => ⟨rfl, rfl, (by decide : 2 + 0 ≤ _), (by decide : 126 + 0 ≤ _)⟩)
  dsimp only [Pt.U, Pt.locs, Pt.cells, Pt.slots] at X23 l23 y23 z23 st23 hQ23
  rw [l23, y23, z23] at X23
  obtain ⟨rfl, Nq23, kp23, na23⟩ := hQ23
  have N24 := Fr.app N19 Nq23
  have f25 := (Safe.keep kp18 (sfS f20 sf0) CH16.1 f20)
  have CH26 := CH21.trans (CHr.keep kp23 (sfS f25 sf0) CH21.1)
  have hk26 := Nat.le_trans hk21 kp23.1
  have Ol27 := Ol22.keep kp23 (allS gn3 all0)
  obtain ⟨cs23, hcs23⟩ : ∃ z, z = List.set cs18 58 (x2 &&& (255 : Int32)) := ⟨_, rfl⟩
  rw [← hcs23] at na23
  have lc23 : List.length cs23 = 61 := by rw [hcs23, List.length_set]; exact lc18
  have bc23 : Byt cs23 := by rw [hcs23]; exact own_setb bc18 58 (own_a255 _)
  obtain ⟨_, _, ⟨T28, L28, k28, n28⟩, -, X28, ⟨Lc28, hQ28, l28, y28, z28⟩, st28⟩ := Jvm.LawKit.callS X23 hx (y := my34) hown (mvT hZ (ow1 hw)) (mvT hZ (ow2 hw)) (mvT hZ (ow3 hw)) (mvT hZ (ow4 hw)) (by decide) (backOf (W := 0) (rmpi l Z a0 hw [] b3 (59 : Int32) x3 k3 cs23 59 61 T23.heap n0 Ol27 na23 lc23 rfl (by decide) (by decide) gn3) hZ (ow4 hw) (ow3 hw) (by decide) (by decide)) (g := (FL m x0 x1 x2 x3 x4 x5 190 (VI 6) (VR b3) (VR b6) (VI 61) .unset .unset [(.int x3), (.int 59), (.ref b3)])) rfl (by rw [hml]; rfl) (argsL := [(.ref b3), (.int 59), (.int x3)]) (rest := []) (lenOf pd26 rfl) rfl (w0 rfl rfl) (B at_190) (fun _ _ => ⟨rfl, rfl, (by decide : 2 + 0 ≤ _), (by decide : 126 + 0 ≤ _)⟩)
  dsimp only [Pt.U, Pt.locs, Pt.cells, Pt.slots] at X28 l28 y28 z28 st28 hQ28
  rw [l28, y28, z28] at X28
  obtain ⟨rfl, Nq28, kp28, na28⟩ := hQ28
  have N29 := Fr.app N24 Nq28
  have f30 := (Safe.keep kp23 (sfS f25 sf0) CH21.1 f25)
  have CH31 := CH26.trans (CHr.keep kp28 (sfS f30 sf0) CH26.1)
  have hk31 := Nat.le_trans hk26 kp28.1
  have Ol32 := Ol27.keep kp28 (allS gn3 all0)
  obtain ⟨cs28, hcs28⟩ : ∃ z, z = List.set cs23 59 (x3 &&& (255 : Int32)) := ⟨_, rfl⟩
  rw [← hcs28] at na28
  have lc28 : List.length cs28 = 61 := by rw [hcs28, List.length_set]; exact lc23
  have bc28 : Byt cs28 := by rw [hcs28]; exact own_setb bc23 59 (own_a255 _)
  obtain ⟨_, _, ⟨T33, L33, k33, n33⟩, -, X33, ⟨Lc33, hQ33, l33, y33, z33⟩, st33⟩ := Jvm.LawKit.callS X28 hx (y := my34) hown (mvT hZ (ow1 hw)) (mvT hZ (ow2 hw)) (mvT hZ (ow3 hw)) (mvT hZ (ow4 hw)) (by decide) (backOf (W := 0) (rmpi l Z a0 hw [] b3 (60 : Int32) x4 k3 cs28 60 61 T28.heap n0 Ol32 na28 lc28 rfl (by decide) (by decide) gn3) hZ (ow4 hw) (ow3 hw) (by decide) (by decide)) (g := (FL m x0 x1 x2 x3 x4 x5 199 (VI 6) (VR b3) (VR b6) (VI 61) .unset .unset [(.int x4), (.int 60), (.ref b3)])) rfl (by rw [hml]; rfl) (argsL := [(.ref b3), (.int 60), (.int x4)]) (rest := []) (lenOf pd26 rfl) rfl (w0 rfl rfl) (B at_199) (fun _ _ => ⟨rfl, rfl, (by decide : 2 + 0 ≤ _), (by decide : 126 + 0 ≤ _)⟩)
  dsimp only [Pt.U, Pt.locs, Pt.cells, Pt.slots] at X33 l33 y33 z33 st33 hQ33
  rw [l33, y33, z33] at X33
  obtain ⟨rfl, Nq33, kp33, na33⟩ := hQ33
  have N34 := Fr.app N29 Nq33
  have f35 := (Safe.keep kp28 (sfS f30 sf0) CH26.1 f30)
  have CH36 := CH31.trans (CHr.keep kp33 (sfS f35 sf0) CH31.1)
  have hk36 := Nat.le_trans hk31 kp33.1
  have Ol37 := Ol32.keep kp33 (allS gn3 all0)
  obtain ⟨cs33, hcs33⟩ : ∃ z, z = List.set cs28 60 (x4 &&& (255 : Int32)) := ⟨_, rfl⟩
  rw [← hcs33] at na33
  have lc33 : List.length cs33 = 61 := by rw [hcs33, List.length_set]; exact lc28
  have bc33 : Byt cs33 := by rw [hcs33]; exact own_setb bc28 60 (own_a255 _)
  obtain ⟨_, _, ⟨T38, L38, k38, n38⟩, -, X38, ⟨Lc38, hQ38, l38, y38, z38⟩, st38⟩ := Jvm.LawKit.callS X33 hx (y := my34) hown (mvT hZ (ow1 hw)) (mvT hZ (ow2 hw)) (mvT hZ (ow3 hw)) (mvT hZ (ow4 hw)) (by decide) (backOf (W := 0) (rmpi l Z a0 hw [] b3 (60 : Int32) ((x5.toUInt32 >>> ((8 : Int32) &&& 31).toUInt32).toInt32) k3 cs33 60 61 T33.heap n0 Ol37 na33 lc33 rfl (by decide) (by decide) gn3) hZ (ow4 hw) (ow3 hw) (by decide) (by decide)) (g := (FL m x0 x1 x2 x3 x4 x5 213 (VI 6) (VR b3) (VR b6) (VI 61) .unset .unset [(.int ((x5.toUInt32 >>> ((8 : Int32) &&& 31).toUInt32).toInt32)), (.int 60), (.ref b3)])) rfl (by rw [hml]; rfl) (argsL := [(.ref b3), (.int 60), (.int ((x5.toUInt32 >>> ((8 : Int32) &&& 31).toUInt32).toInt32))]) (rest := []) (lenOf pd26 rfl) rfl (w0 rfl rfl) (B at_213) (fun _ _ => ⟨rfl, rfl, (by decide : 2 + 0 ≤ _), (by decide : 126 + 0 ≤ _)⟩)
  dsimp only [Pt.U, Pt.locs, Pt.cells, Pt.slots] at X38 l38 y38 z38 st38 hQ38
  rw [l38, y38, z38] at X38
  obtain ⟨rfl, Nq38, kp38, na38⟩ := hQ38
  have N39 := Fr.app N34 Nq38
  have f40 := (Safe.keep kp33 (sfS f35 sf0) CH31.1 f35)
  have CH41 := CH36.trans (CHr.keep kp38 (sfS f40 sf0) CH36.1)
  have hk41 := Nat.le_trans hk36 kp38.1
  have Ol42 := Ol37.keep kp38 (allS gn3 all0)
  obtain ⟨cs38, hcs38⟩ : ∃ z, z = List.set cs33 60 (((x5.toUInt32 >>> ((8 : Int32) &&& 31).toUInt32).toInt32) &&& (255 : Int32)) := ⟨_, rfl⟩
  rw [← hcs38] at na38
  have lc38 : List.length cs38 = 61 := by rw [hcs38, List.length_set]; exact lc33
  have bc38 : Byt cs38 := by rw [hcs38]; exact own_setb bc33 60 (own_a255 _)
  obtain ⟨_, _, ⟨T43, L43, k43, n43⟩, -, X43, ⟨Lc43, hQ43, l43, y43, z43⟩, st43⟩ := Jvm.LawKit.callS X38 hx (y := my7) hown (mvT hZ (ow5 hw)) (mvT hZ (ow6 hw)) (mvT hZ (ow7 hw)) (mvT hZ (ow8 hw)) (by decide) (backOf (W := 0) (rmmin l Z a0 hw [] (61 : Int32) (60 : Int32)  T38.heap n0 Ol42 ) hZ (ow8 hw) (ow7 hw) (by decide) (by decide)) (g := (FL m x0 x1 x2 x3 x4 x5 220 (VI 6) (VR b3) (VR b6) (VI 61) .unset .unset [(.int 60), (.int 61)])) rfl (by rw [hml]; rfl) (argsL := [(.int 61), (.int 60)]) (rest := []) (lenOf pd2 rfl) rfl (w0 rfl rfl) (B at_220) (fun _ _ => ⟨rfl, rfl, (by decide : 2 + 0 ≤ _), (by decide : 126 + 0 ≤ _)⟩)
  dsimp only [Pt.U, Pt.locs, Pt.cells, Pt.slots] at X43 l43 y43 z43 st43 hQ43
  rw [l43, y43, z43] at X43
  obtain ⟨hv43, Nq43, eq43⟩ := hQ43
  obtain rfl := own_lit hv43 (y := (60 : Int32)) (by decide)
  have N44 := Fr.app N39 Nq43
  have f45 := ((((((Vm11.keep kp13 (ninS (Ne.symm neb3_6) nin0)).keep kp18 (ninS (Ne.symm neb3_6) nin0)).keep kp23 (ninS (Ne.symm neb3_6) nin0)).keep kp28 (ninS (Ne.symm neb3_6) nin0)).keep kp33 (ninS (Ne.symm neb3_6) nin0)).keep kp38 (ninS (Ne.symm neb3_6) nin0))
  obtain ⟨cl46, Ar46, q46, S46, M46, H46, G46⟩ := id f45
  have hin46 : ¬ ((0 : Int32) < 0 ∨ cl46.slots.size ≤ ((0 : Int32)).toNatClampNeg) := inb_of S46 ⟨by decide, by decide⟩
  obtain ⟨T47, h47, X47, e47, W47, st47⟩ := stC X43 hx hZ eq43 Ar46 (j := (0 : Int32)) hin46 (g := (FL m x0 x1 x2 x3 x4 x5 230 (VI 6) (VR b3) (VR b6) (VI 61) (VI 60) .unset [(.int 34), (.int 0), (.ref b6)])) rfl rfl (B at_230)
  have V47 : Arv Z h47 b6 k6 .char (65 : Int32) (List.map Value.int (List.set (List.replicate 65 (0 : Int32)) 0 (34 : Int32))) (.int (0 : Int32)) := (by have q := (Arv.set Ar46 q46 S46 M46 H46 G46 (fits_nar_char _) W47 0 rfl (by rw [List.length_map, ((by simp only [List.length_replicate]) : List.length (List.replicate 65 (0 : Int32)) = 65)]; decide)); rw [show nar .char (34 : Int32) = 34 by decide] at q; rw [List.map_set]; exact q)
  have f48 := (Safe.keep kp38 (sfS f40 sf0) CH36.1 (Safe.keep kp33 (sfS f35 sf0) CH31.1 (Safe.keep kp28 (sfS f30 sf0) CH26.1 (Safe.keep kp23 (sfS f25 sf0) CH21.1 (Safe.keep kp18 (sfS f20 sf0) CH16.1 (Safe.keep kp13 (sfS f15 sf0) CH7.1 Y6))))))
  have CH49 := CH41.trans (CHr.wr W47 f48 CH41.1)
  have hk49 := Nat.le_trans hk41 (Keep.of_wr W47).1
  have N50 := Fr.snoc X47 N44 gn6
  have Ol50 := Ol42.wr W47 gn6
  have f51 := (na38.other W47 neb3_6)
  obtain ⟨_, _, ⟨T52, L52, k52, n52⟩, -, X52, ⟨Lc52, hQ52, l52, y52, z52⟩, st52⟩ := Jvm.LawKit.callS X47 hx (y := my35) hown (mvT hZ (ow9 hw)) (mvT hZ (ow10 hw)) (mvT hZ (ow3 hw)) (mvT hZ (ow11 hw)) (by decide) (backOf (W := 0) (rmci l Z a0 hw [] b3 b6 (0 : Int32) (60 : Int32) k3 k6 cs38 (List.set (List.replicate 65 (0 : Int32)) 0 (34 : Int32)) 0 61 65 60 h47 n0 Ol50 f51 V47 (by rw [List.length_set]; exact (by simp only [List.length_replicate])) bc38 rfl rfl (by decide) (by decide) (by decide) (by decide) (by decide) gn6) hZ (ow11 hw) (ow3 hw) (by decide) (by decide)) (g := (FL m x0 x1 x2 x3 x4 x5 238 (VI 6) (VR b3) (VR b6) (VI 61) (VI 60) .unset [(.int 60), (.int 0), (.ref b6), (.ref b3)])) rfl (by rw [hml]; rfl) (argsL := [(.ref b3), (.ref b6), (.int 0), (.int 60)]) (rest := []) (lenOf pd27 rfl) rfl (w0 rfl rfl) (B at_238) (fun _ _ => ⟨rfl, e47, (by decide : 2 + 0 ≤ _), (by decide : 126 + 0 ≤ _)⟩)
  dsimp only [Pt.U, Pt.locs, Pt.cells, Pt.slots] at X52 l52 y52 z52 st52 hQ52
  rw [l52, y52, z52] at X52
  obtain ⟨rfl, Nq52, kp52, na52⟩ := hQ52
  have N53 := Fr.app N50 Nq52
  have f54 := (Safe.wr W47 f48 CH41.1 f48)
  have CH55 := CH49.trans (CHr.keep kp52 (sfS f54 sf0) CH49.1)
  have hk55 := Nat.le_trans hk49 kp52.1
  have Ol56 := Ol50.keep kp52 (allS gn6 all0)
  obtain ⟨cs52, hcs52⟩ : ∃ z, z = List.set (List.set (List.replicate 65 (0 : Int32)) 0 (34 : Int32)) (0 + 1) (List.getD cs38 0 0) := ⟨_, rfl⟩
  rw [← hcs52] at na52
  have lc52 : List.length cs52 = 65 := by rw [hcs52, List.length_set]; exact (by rw [List.length_set]; exact (by simp only [List.length_replicate]))
  have bc52 : Byt cs52 := by rw [hcs52]; exact own_setb (own_setb (own_rep0 65) 0 (by decide)) (0 + 1) (own_gdb bc38 0)
  have f57 := (f51.keep kp52 (ninS neb3_6 nin0))
  obtain ⟨_, _, ⟨T58, L58, k58, n58⟩, -, X58, ⟨Lc58, hQ58, l58, y58, z58⟩, st58⟩ := Jvm.LawKit.callS X52 hx (y := my35) hown (mvT hZ (ow9 hw)) (mvT hZ (ow10 hw)) (mvT hZ (ow3 hw)) (mvT hZ (ow11 hw)) (by decide) (backOf (W := 0) (rmci l Z a0 hw [] b3 b6 (1 : Int32) (60 : Int32) k3 k6 cs38 cs52 1 61 65 60 T52.heap n0 Ol56 f57 na52 lc52 bc38 rfl rfl (by decide) (by decide) (by decide) (by decide) (by decide) gn6) hZ (ow11 hw) (ow3 hw) (by decide) (by decide)) (g := (FL m x0 x1 x2 x3 x4 x5 248 (VI 6) (VR b3) (VR b6) (VI 61) (VI 60) .unset [(.int 60), (.int 1), (.ref b6), (.ref b3)])) rfl (by rw [hml]; rfl) (argsL := [(.ref b3), (.ref b6), (.int 1), (.int 60)]) (rest := []) (lenOf pd27 rfl) rfl (w0 rfl rfl) (B at_248) (fun _ _ => ⟨rfl, rfl, (by decide : 2 + 0 ≤ _), (by decide : 126 + 0 ≤ _)⟩)
  dsimp only [Pt.U, Pt.locs, Pt.cells, Pt.slots] at X58 l58 y58 z58 st58 hQ58
  rw [l58, y58, z58] at X58
  obtain ⟨rfl, Nq58, kp58, na58⟩ := hQ58
  have N59 := Fr.app N53 Nq58
  have f60 := (Safe.keep kp52 (sfS f54 sf0) CH49.1 f54)
  have CH61 := CH55.trans (CHr.keep kp58 (sfS f60 sf0) CH55.1)
  have hk61 := Nat.le_trans hk55 kp58.1
  have Ol62 := Ol56.keep kp58 (allS gn6 all0)
  obtain ⟨cs58, hcs58⟩ : ∃ z, z = List.set cs52 (1 + 1) (List.getD cs38 1 0) := ⟨_, rfl⟩
  rw [← hcs58] at na58
  have lc58 : List.length cs58 = 65 := by rw [hcs58, List.length_set]; exact lc52
  have bc58 : Byt cs58 := by rw [hcs58]; exact own_setb bc52 (1 + 1) (own_gdb bc38 1)
  have f63 := (f57.keep kp58 (ninS neb3_6 nin0))
  obtain ⟨_, _, ⟨T64, L64, k64, n64⟩, -, X64, ⟨Lc64, hQ64, l64, y64, z64⟩, st64⟩ := Jvm.LawKit.callS X58 hx (y := my35) hown (mvT hZ (ow9 hw)) (mvT hZ (ow10 hw)) (mvT hZ (ow3 hw)) (mvT hZ (ow11 hw)) (by decide) (backOf (W := 0) (rmci l Z a0 hw [] b3 b6 (58 : Int32) (60 : Int32) k3 k6 cs38 cs58 58 61 65 60 T58.heap n0 Ol62 f63 na58 lc58 bc38 rfl rfl (by decide) (by decide) (by decide) (by decide) (by decide) gn6) hZ (ow11 hw) (ow3 hw) (by decide) (by decide)) (g := (FL m x0 x1 x2 x3 x4 x5 259 (VI 6) (VR b3) (VR b6) (VI 61) (VI 60) .unset [(.int 60), (.int 58), (.ref b6), (.ref b3)])) rfl (by rw [hml]; rfl) (argsL := [(.ref b3), (.ref b6), (.int 58), (.int 60)]) (rest := []) (lenOf pd27 rfl) rfl (w0 rfl rfl) (B at_259) (fun _ _ => ⟨rfl, rfl, (by decide : 2 + 0 ≤ _), (by decide : 126 + 0 ≤ _)⟩)
  dsimp only [Pt.U, Pt.locs, Pt.cells, Pt.slots] at X64 l64 y64 z64 st64 hQ64
  rw [l64, y64, z64] at X64
  obtain ⟨rfl, Nq64, kp64, na64⟩ := hQ64
  have N65 := Fr.app N59 Nq64
  have f66 := (Safe.keep kp58 (sfS f60 sf0) CH55.1 f60)
  have CH67 := CH61.trans (CHr.keep kp64 (sfS f66 sf0) CH61.1)
  have hk67 := Nat.le_trans hk61 kp64.1
  have Ol68 := Ol62.keep kp64 (allS gn6 all0)
  obtain ⟨cs64, hcs64⟩ : ∃ z, z = List.set cs58 (58 + 1) (List.getD cs38 58 0) := ⟨_, rfl⟩
  rw [← hcs64] at na64
  have lc64 : List.length cs64 = 65 := by rw [hcs64, List.length_set]; exact lc58
  have bc64 : Byt cs64 := by rw [hcs64]; exact own_setb bc58 (58 + 1) (own_gdb bc38 58)
  have f69 := (f63.keep kp64 (ninS neb3_6 nin0))
  obtain ⟨_, _, ⟨T70, L70, k70, n70⟩, -, X70, ⟨Lc70, hQ70, l70, y70, z70⟩, st70⟩ := Jvm.LawKit.callS X64 hx (y := my35) hown (mvT hZ (ow9 hw)) (mvT hZ (ow10 hw)) (mvT hZ (ow3 hw)) (mvT hZ (ow11 hw)) (by decide) (backOf (W := 0) (rmci l Z a0 hw [] b3 b6 (59 : Int32) (60 : Int32) k3 k6 cs38 cs64 59 61 65 60 T64.heap n0 Ol68 f69 na64 lc64 bc38 rfl rfl (by decide) (by decide) (by decide) (by decide) (by decide) gn6) hZ (ow11 hw) (ow3 hw) (by decide) (by decide)) (g := (FL m x0 x1 x2 x3 x4 x5 270 (VI 6) (VR b3) (VR b6) (VI 61) (VI 60) .unset [(.int 60), (.int 59), (.ref b6), (.ref b3)])) rfl (by rw [hml]; rfl) (argsL := [(.ref b3), (.ref b6), (.int 59), (.int 60)]) (rest := []) (lenOf pd27 rfl) rfl (w0 rfl rfl) (B at_270) (fun _ _ => ⟨rfl, rfl, (by decide : 2 + 0 ≤ _), (by decide : 126 + 0 ≤ _)⟩)
  dsimp only [Pt.U, Pt.locs, Pt.cells, Pt.slots] at X70 l70 y70 z70 st70 hQ70
  rw [l70, y70, z70] at X70
  obtain ⟨rfl, Nq70, kp70, na70⟩ := hQ70
  have N71 := Fr.app N65 Nq70
  have f72 := (Safe.keep kp64 (sfS f66 sf0) CH61.1 f66)
  have CH73 := CH67.trans (CHr.keep kp70 (sfS f72 sf0) CH67.1)
  have hk73 := Nat.le_trans hk67 kp70.1
  have Ol74 := Ol68.keep kp70 (allS gn6 all0)
  obtain ⟨cs70, hcs70⟩ : ∃ z, z = List.set cs64 (59 + 1) (List.getD cs38 59 0) := ⟨_, rfl⟩
  rw [← hcs70] at na70
  have lc70 : List.length cs70 = 65 := by rw [hcs70, List.length_set]; exact lc64
  have bc70 : Byt cs70 := by rw [hcs70]; exact own_setb bc64 (59 + 1) (own_gdb bc38 59)
  obtain ⟨_, _, ⟨T75, L75, k75, n75⟩, -, X75, ⟨Lc75, hQ75, l75, y75, z75⟩, st75⟩ := Jvm.LawKit.callS X70 hx (y := my35) hown (mvT hZ (ow9 hw)) (mvT hZ (ow10 hw)) (mvT hZ (ow3 hw)) (mvT hZ (ow11 hw)) (by decide) (backOf (W := 0) (rmco l Z a0 hw [] b3 b6 (60 : Int32) (60 : Int32)  T70.heap n0 Ol74 (by decide)) hZ (ow11 hw) (ow3 hw) (by decide) (by decide)) (g := (FL m x0 x1 x2 x3 x4 x5 281 (VI 6) (VR b3) (VR b6) (VI 61) (VI 60) .unset [(.int 60), (.int 60), (.ref b6), (.ref b3)])) rfl (by rw [hml]; rfl) (argsL := [(.ref b3), (.ref b6), (.int 60), (.int 60)]) (rest := []) (lenOf pd27 rfl) rfl (w0 rfl rfl) (B at_281) (fun _ _ => ⟨rfl, rfl, (by decide : 2 + 0 ≤ _), (by decide : 126 + 0 ≤ _)⟩)
  dsimp only [Pt.U, Pt.locs, Pt.cells, Pt.slots] at X75 l75 y75 z75 st75 hQ75
  rw [l75, y75, z75] at X75
  obtain ⟨rfl, Nq75, eq75⟩ := hQ75
  have N76 := Fr.app N71 Nq75
  obtain ⟨_, _, ⟨T77, L77, k77, n77⟩, -, X77, ⟨Lc77, hQ77, l77, y77, z77⟩, st77⟩ := Jvm.LawKit.callS X75 hx (y := my35) hown (mvT hZ (ow9 hw)) (mvT hZ (ow10 hw)) (mvT hZ (ow3 hw)) (mvT hZ (ow11 hw)) (by decide) (backOf (W := 0) (rmco l Z a0 hw [] b3 b6 (60 : Int32) (60 : Int32)  T70.heap n0 Ol74 (by decide)) hZ (ow11 hw) (ow3 hw) (by decide) (by decide)) (g := (FL m x0 x1 x2 x3 x4 x5 294 (VI 6) (VR b3) (VR b6) (VI 61) (VI 60) .unset [(.int 60), (.int 60), (.ref b6), (.ref b3)])) rfl (by rw [hml]; rfl) (argsL := [(.ref b3), (.ref b6), (.int 60), (.int 60)]) (rest := []) (lenOf pd27 rfl) rfl (w0 rfl rfl) (B at_294) (fun _ _ => ⟨rfl, eq75, (by decide : 2 + 0 ≤ _), (by decide : 126 + 0 ≤ _)⟩)
  dsimp only [Pt.U, Pt.locs, Pt.cells, Pt.slots] at X77 l77 y77 z77 st77 hQ77
  rw [l77, y77, z77] at X77
  obtain ⟨rfl, Nq77, eq77⟩ := hQ77
  have N78 := Fr.app N76 Nq77
  obtain ⟨cl79, Ar79, q79, S79, M79, H79, G79⟩ := id na70
  have hin79 : ¬ ((61 : Int32) < 0 ∨ cl79.slots.size ≤ ((61 : Int32)).toNatClampNeg) := inb_of S79 ⟨by decide, by decide⟩
  obtain ⟨T80, h80, X80, e80, W80, st80⟩ := stC X77 hx hZ eq77 Ar79 (j := (61 : Int32)) hin79 (g := (FL m x0 x1 x2 x3 x4 x5 310 (VI 6) (VR b3) (VR b6) (VI 61) (VI 60) .unset [(.int 46), (.int 61), (.ref b6)])) rfl rfl (B at_310)
  have V80 : Arv Z h80 b6 k6 .char (65 : Int32) (List.map Value.int (List.set cs70 61 (46 : Int32))) (.int (0 : Int32)) := (by have q := (Arv.set Ar79 q79 S79 M79 H79 G79 (fits_nar_char _) W80 61 rfl (by rw [List.length_map, (lc70 : List.length cs70 = 65)]; decide)); rw [show nar .char (46 : Int32) = 46 by decide] at q; rw [List.map_set]; exact q)
  have f81 := (Safe.keep kp70 (sfS f72 sf0) CH67.1 f72)
  have CH82 := CH73.trans (CHr.wr W80 f81 CH73.1)
  have hk82 := Nat.le_trans hk73 (Keep.of_wr W80).1
  have N83 := Fr.snoc X80 N78 gn6
  have Ol83 := Ol74.wr W80 gn6
  obtain ⟨cl84, Ar84, q84, S84, M84, H84, G84⟩ := id V80
  have hin84 : ¬ ((62 : Int32) < 0 ∨ cl84.slots.size ≤ ((62 : Int32)).toNatClampNeg) := inb_of S84 ⟨by decide, by decide⟩
  obtain ⟨T85, h85, X85, e85, W85, st85⟩ := stC X80 hx hZ e80 Ar84 (j := (62 : Int32)) hin84 (g := (FL m x0 x1 x2 x3 x4 x5 317 (VI 6) (VR b3) (VR b6) (VI 61) (VI 60) .unset [(.int 46), (.int 62), (.ref b6)])) rfl rfl (B at_317)
  have V85 : Arv Z h85 b6 k6 .char (65 : Int32) (List.map Value.int (List.set (List.set cs70 61 (46 : Int32)) 62 (46 : Int32))) (.int (0 : Int32)) := (by have q := (Arv.set Ar84 q84 S84 M84 H84 G84 (fits_nar_char _) W85 62 rfl (by rw [List.length_map, ((by rw [List.length_set]; exact lc70) : List.length (List.set cs70 61 (46 : Int32)) = 65)]; decide)); rw [show nar .char (46 : Int32) = 46 by decide] at q; rw [List.map_set]; exact q)
  have f86 := (Safe.wr W80 f81 CH73.1 f81)
  have CH87 := CH82.trans (CHr.wr W85 f86 CH82.1)
  have hk87 := Nat.le_trans hk82 (Keep.of_wr W85).1
  have N88 := Fr.snoc X85 N83 gn6
  have Ol88 := Ol83.wr W85 gn6
  obtain ⟨cl89, Ar89, q89, S89, M89, H89, G89⟩ := id V85
  have hin89 : ¬ ((63 : Int32) < 0 ∨ cl89.slots.size ≤ ((63 : Int32)).toNatClampNeg) := inb_of S89 ⟨by decide, by decide⟩
  obtain ⟨T90, h90, X90, e90, W90, st90⟩ := stC X85 hx hZ e85 Ar89 (j := (63 : Int32)) hin89 (g := (FL m x0 x1 x2 x3 x4 x5 324 (VI 6) (VR b3) (VR b6) (VI 61) (VI 60) .unset [(.int 46), (.int 63), (.ref b6)])) rfl rfl (B at_324)
  have V90 : Arv Z h90 b6 k6 .char (65 : Int32) (List.map Value.int (List.set (List.set (List.set cs70 61 (46 : Int32)) 62 (46 : Int32)) 63 (46 : Int32))) (.int (0 : Int32)) := (by have q := (Arv.set Ar89 q89 S89 M89 H89 G89 (fits_nar_char _) W90 63 rfl (by rw [List.length_map, ((by rw [List.length_set]; exact (by rw [List.length_set]; exact lc70)) : List.length (List.set (List.set cs70 61 (46 : Int32)) 62 (46 : Int32)) = 65)]; decide)); rw [show nar .char (46 : Int32) = 46 by decide] at q; rw [List.map_set]; exact q)
  have f91 := (Safe.wr W85 f86 CH82.1 f86)
  have CH92 := CH87.trans (CHr.wr W90 f91 CH87.1)
  have hk92 := Nat.le_trans hk87 (Keep.of_wr W90).1
  have N93 := Fr.snoc X90 N88 gn6
  have Ol93 := Ol88.wr W90 gn6
  obtain ⟨cl94, Ar94, q94, S94, M94, H94, G94⟩ := id V90
  have hin94 : ¬ ((64 : Int32) < 0 ∨ cl94.slots.size ≤ ((64 : Int32)).toNatClampNeg) := inb_of S94 ⟨by decide, by decide⟩
  obtain ⟨T95, h95, X95, e95, W95, st95⟩ := stC X90 hx hZ e90 Ar94 (j := (64 : Int32)) hin94 (g := (FL m x0 x1 x2 x3 x4 x5 331 (VI 6) (VR b3) (VR b6) (VI 61) (VI 60) .unset [(.int 34), (.int 64), (.ref b6)])) rfl rfl (B at_331)
  have V95 : Arv Z h95 b6 k6 .char (65 : Int32) (List.map Value.int (List.set (List.set (List.set (List.set cs70 61 (46 : Int32)) 62 (46 : Int32)) 63 (46 : Int32)) 64 (34 : Int32))) (.int (0 : Int32)) := (by have q := (Arv.set Ar94 q94 S94 M94 H94 G94 (fits_nar_char _) W95 64 rfl (by rw [List.length_map, ((by rw [List.length_set]; exact (by rw [List.length_set]; exact (by rw [List.length_set]; exact lc70))) : List.length (List.set (List.set (List.set cs70 61 (46 : Int32)) 62 (46 : Int32)) 63 (46 : Int32)) = 65)]; decide)); rw [show nar .char (34 : Int32) = 34 by decide] at q; rw [List.map_set]; exact q)
  have f96 := (Safe.wr W90 f91 CH87.1 f91)
  have CH97 := CH92.trans (CHr.wr W95 f96 CH92.1)
  have hk97 := Nat.le_trans hk92 (Keep.of_wr W95).1
  have N98 := Fr.snoc X95 N93 gn6
  have Ol98 := Ol93.wr W95 gn6
  have f99 := (((((f69.keep kp70 (ninS neb3_6 nin0)).other W80 neb3_6).other W85 neb3_6).other W90 neb3_6).other W95 neb3_6)
  obtain ⟨T100, h100, X100, e100, E100, A100, D100, U100, st100⟩ := newO X95 hx hZ hown (ow12 hw) (ow13 hw) (ow14 hw) e95 (g := (FL m x0 x1 x2 x3 x4 x5 344 (VI 6) (VR b3) (VR b6) (VI 61) (VI 60) .unset [])) rfl (B at_344) (by decide) (by decide)
  obtain ⟨b100, g100⟩ : ∃ z, z = h95.size := ⟨_, rfl⟩
  rw [← g100] at A100 D100 U100 st100
  have gn100 : n0 ≤ b100 := Nat.le_trans (own_sz Ol98) (Nat.le_of_eq g100.symm)
  have neb3_100 : b3 ≠ b100 := Nat.ne_of_lt (Nat.lt_of_lt_of_le f99.lt (Nat.le_of_eq g100.symm))
  have neb6_100 : b6 ≠ b100 := Nat.ne_of_lt (Nat.lt_of_lt_of_le V95.lt (Nat.le_of_eq g100.symm))
  have Y100 := Safe.ext E100 CH97.1 (Safe.new (x := b100) (Nat.le_of_eq g100.symm))
  have CH101 := CH97.trans (CHr.ext E100 CH97.1)
  have hk101 := Nat.le_trans hk97 E100.1
  have Ol102 := Ol98.ext E100
  have Fcoder_100 : Fld Z h100 b100 "java/lang/String" "coder" "B" (.int (0 : Int32)) := D100 (Or.inr (ow38 hw)) (ty := .byte) (by decide)
  have Fvalue_100 : Fld Z h100 b100 "java/lang/String" "value" "[B" .null := D100 (Or.inr (ow40 hw)) (ty := (.array .byte)) (by decide)
  have f103 := (f99.ext E100)
  obtain ⟨_, _, ⟨T104, L104, k104, n104⟩, -, X104, ⟨Lc104, hQ104, l104, y104, z104⟩, st104⟩ := X100.specialBack hx (y := my1) rfl hown (mvT hZ (ow15 hw)) (mvT hZ (ow16 hw)) (mvT hZ (ow17 hw)) (by decide) (StrChars.Road.backV (W := 1) hZ (own_ws hw) (kI := 4) (ow13 hw) (cs := cs38) (bs := List.map (fun c => c.toInt8.toInt32) cs38) (n := 61) gn100 (own_sz Ol102) A100 Fvalue_100 Fcoder_100 f103 (O2.ext Ol102.2) P5 lc38 rfl (by decide) (by decide) bc38 rfl (by decide) (by decide)) (g := (FL m x0 x1 x2 x3 x4 x5 350 (VI 6) (VR b3) (VR b6) (VI 61) (VI 60) .unset [(.ref b3), (.ref b100), (.ref b100)])) rfl (by rw [hml]; rfl) (Steps.refl _) (a := b100) (argsL := [(.ref b3)]) (rest := [(.ref b100)]) (lenOf pd28 rfl) rfl (w0 rfl rfl) (B at_350) (fun _ _ => ⟨rfl, e100, (by decide : 3 + 1 ≤ _), (by decide : 130 + 61 ≤ _)⟩)
  dsimp only [Pt.U, Pt.locs, Pt.cells, Pt.slots] at X104 l104 y104 z104 st104 hQ104
  rw [l104, y104, z104] at X104
  obtain ⟨rfl, Nq104, kp104, sE104, sC104, t104, k104_, -, -, -, sV104, sA104⟩ := hQ104
  have ln104 : List.length cs38 = 61 := lc38
  have Sp104 : StrP Z _ b100 cs38 := ⟨sE104, sC104, bc38, (by rw [ln104]; decide), t104, k104_, sV104, (by rw [ln104]; exact sA104)⟩
  have N105 := Fr.app N98 Nq104
  have CH106 := CH101.trans (CHr.keep kp104 (sfS Y100 sf0) CH101.1)
  have hk106 := Nat.le_trans hk101 kp104.1
  have Ol107 := Ol102.keep kp104 (allS gn100 all0)
  obtain ⟨sEI, sCI, spI, slI, tI, skI, sVI, sAI⟩ := id Sp104
  obtain ⟨_, _, ⟨T108, L108, k108, n108⟩, -, Xr108, hSr108, hgr108, ⟨Lc108, hQ108, l108, y108, z108, CR108⟩, st108⟩ := callSS X104 hx (y := my33) hown (mvT hZ (ow41 hw)) (mvT hZ (ow42 hw)) (mvT hZ (ow43 hw)) (mvT hZ (ow44 hw)) (by decide) (backOfSH (W := 0) (rmql l Z a0 hw [] b100 cs38 G1 fm T104.heap n0 Ol107 O2 P5 O4 rf ⟨sEI, sCI, spI, slI, tI, skI, sVI, sAI⟩ (by rw [lc38]; decide) (by rw [lc38]; decide)) hZ (ow44 hw) (ow43 hw) (by decide) (by decide) (own_EW hw) CH106.1) (g := (FL m x0 x1 x2 x3 x4 x5 353 (VI 6) (VR b3) (VR b6) (VI 61) (VI 60) .unset [(.ref b100)])) rfl (by rw [hml]; rfl) (argsL := [(.ref b100)]) (rest := []) (lenOf pd29 rfl) rfl (w0 rfl rfl) (B at_353) (fun _ _ => ⟨rfl, rfl, (by decide : 4 + 20 ≤ _), (by decide : 191 + 1479 ≤ _)⟩)
  dsimp only [Pt.U, Pt.locs, Pt.cells, Pt.slots] at Xr108 hSr108 hgr108 l108 y108 z108 CR108 st108 hQ108
  rw [l108, y108, z108] at Xr108
  obtain ⟨X108, hS108, hZ108, hown108⟩ := rebS hS0 hk106 Xr108 hSr108 hgr108 hZ hown
  have hk108 : T108.heap.size ≤ T108.heap.size := Nat.le_refl _
  obtain ⟨qb108, rfl, Nq108, kp108, Sq108⟩ := hQ108
  have N109 := Fr.app N105 Nq108
  have f110 := (f103.keep kp104 (ninS neb3_100 nin0))
  have f111 := ((V95.ext E100).keep kp104 (ninS neb6_100 nin0))
  have CH112 := CH106.trans CR108
  have Ol113 := Ol107.keep kp108 all0
  obtain ⟨sEQ, sCQ, spQ, slQ, tQ, skQ, sVQ, sAQ⟩ := id Sq108
  have f114 := (f110.keep kp108 nin0)
  have f115 := (f111.keep kp108 nin0)
  have f116 := (sEI.keep kp108)
  have f117 := (sAI.keep kp108 nin0)
  obtain ⟨T118, h118, X118, e118, E118, A118, D118, U118, st118⟩ := newO X108 hx hZ108 hown108 (ow12 hw) (ow13 hw) (ow14 hw) rfl (g := (FL m x0 x1 x2 x3 x4 x5 360 (VI 6) (VR b3) (VR b6) (VI 61) (VI 60) (VR qb108) [(.ref qb108)])) rfl (B at_360) (by decide) (by decide)
  obtain ⟨b118, g118⟩ : ∃ z, z = T108.heap.size := ⟨_, rfl⟩
  rw [← g118] at A118 D118 U118 st118
  have gn118 : n0 ≤ b118 := Nat.le_trans (own_sz Ol113) (Nat.le_of_eq g118.symm)
  have neb3_118 : b3 ≠ b118 := Nat.ne_of_lt (Nat.lt_of_lt_of_le f114.lt (Nat.le_of_eq g118.symm))
  have neb6_118 : b6 ≠ b118 := Nat.ne_of_lt (Nat.lt_of_lt_of_le f115.lt (Nat.le_of_eq g118.symm))
  have neb100_118 : b100 ≠ b118 := Nat.ne_of_lt (Nat.lt_of_lt_of_le f116.lt (Nat.le_of_eq g118.symm))
  have netI_118 : tI ≠ b118 := Nat.ne_of_lt (Nat.lt_of_lt_of_le f117.lt (Nat.le_of_eq g118.symm))
  have neqb108_118 : qb108 ≠ b118 := Nat.ne_of_lt (Nat.lt_of_lt_of_le sEQ.lt (Nat.le_of_eq g118.symm))
  have netQ_118 : tQ ≠ b118 := Nat.ne_of_lt (Nat.lt_of_lt_of_le sAQ.lt (Nat.le_of_eq g118.symm))
  have Y118 := Safe.ext E118 CH112.1 (Safe.new (x := b118) (Nat.le_of_eq g118.symm))
  have CH119 := CH112.trans (CHr.ext E118 CH112.1)
  have hk119 := Nat.le_trans hk108 E118.1
  have Ol120 := Ol113.ext E118
  have Fcoder_118 : Fld Z h118 b118 "java/lang/String" "coder" "B" (.int (0 : Int32)) := D118 (Or.inr (ow38 hw)) (ty := .byte) (by decide)
  have Fvalue_118 : Fld Z h118 b118 "java/lang/String" "value" "[B" .null := D118 (Or.inr (ow40 hw)) (ty := (.array .byte)) (by decide)
  have f121 := (f115.ext E118)
  obtain ⟨_, _, ⟨T122, L122, k122, n122⟩, -, X122, ⟨Lc122, hQ122, l122, y122, z122⟩, st122⟩ := X118.specialBack hx (y := my1) rfl hown108 (mvT hZ108 (ow15 hw)) (mvT hZ108 (ow16 hw)) (mvT hZ108 (ow17 hw)) (by decide) (StrChars.Road.backV (W := 2) hZ108 (own_ws hw) (kI := 4) (ow13 hw) (cs := (List.set (List.set (List.set (List.set cs70 61 (46 : Int32)) 62 (46 : Int32)) 63 (46 : Int32)) 64 (34 : Int32))) (bs := List.map (fun c => c.toInt8.toInt32) (List.set (List.set (List.set (List.set cs70 61 (46 : Int32)) 62 (46 : Int32)) 63 (46 : Int32)) 64 (34 : Int32))) (n := 65) gn118 (own_sz Ol120) A118 Fvalue_118 Fcoder_118 f121 (O2.ext Ol120.2) P5 (by rw [List.length_set]; exact (by rw [List.length_set]; exact (by rw [List.length_set]; exact (by rw [List.length_set]; exact lc70)))) rfl (by decide) (by decide) (own_setb (own_setb (own_setb (own_setb bc70 61 (by decide)) 62 (by decide)) 63 (by decide)) 64 (by decide)) rfl (by decide) (by decide)) (g := (FL m x0 x1 x2 x3 x4 x5 366 (VI 6) (VR b3) (VR b6) (VI 61) (VI 60) (VR qb108) [(.ref b6), (.ref b118), (.ref b118), (.ref qb108)])) rfl (by rw [hml]; rfl) (Steps.refl _) (a := b118) (argsL := [(.ref b6)]) (rest := [(.ref b118), (.ref qb108)]) (lenOf pd28 rfl) rfl (w0 rfl rfl) (B at_366) (fun _ _ => ⟨rfl, e118, (by decide : 25 + 1 ≤ _), (by decide : 1674 + 65 ≤ _)⟩)
  dsimp only [Pt.U, Pt.locs, Pt.cells, Pt.slots] at X122 l122 y122 z122 st122 hQ122
  rw [l122, y122, z122] at X122
  obtain ⟨rfl, Nq122, kp122, sE122, sC122, t122, k122_, -, -, -, sV122, sA122⟩ := hQ122
  have ln122 : List.length (List.set (List.set (List.set (List.set cs70 61 (46 : Int32)) 62 (46 : Int32)) 63 (46 : Int32)) 64 (34 : Int32)) = 65 := (by rw [List.length_set]; exact (by rw [List.length_set]; exact (by rw [List.length_set]; exact (by rw [List.length_set]; exact lc70))))
  have Sp122 : StrP Z _ b118 (List.set (List.set (List.set (List.set cs70 61 (46 : Int32)) 62 (46 : Int32)) 63 (46 : Int32)) 64 (34 : Int32)) := ⟨sE122, sC122, (own_setb (own_setb (own_setb (own_setb bc70 61 (by decide)) 62 (by decide)) 63 (by decide)) 64 (by decide)), (by rw [ln122]; decide), t122, k122_, sV122, (by rw [ln122]; exact sA122)⟩
  have N123 := Fr.app N109 Nq122
  have CH124 := CH119.trans (CHr.keep kp122 (sfS Y118 sf0) CH119.1)
  have hk124 := Nat.le_trans hk119 kp122.1
  have Ol125 := Ol120.keep kp122 (allS gn118 all0)
  obtain ⟨sEO, sCO, spO, slO, tO, skO, sVO, sAO⟩ := id Sp122
  have f126 := ((sEQ.ext E118).keep kp122)
  have f127 := ((sVQ.ext E118).keep kp122 (ninS neqb108_118 nin0))
  have f128 := ((sCQ.ext E118).keep kp122 (ninS neqb108_118 nin0))
  have f129 := ((sAQ.ext E118).keep kp122 (ninS netQ_118 nin0))
  obtain ⟨cq130, kq130, q130a, q130b, q130c⟩ := isOf hZ108 rfl f126
  obtain ⟨_, _, ⟨T130, L130, k130, n130⟩, -, X130, ⟨Lc130, hQ130, l130, y130, z130⟩, st130⟩ := X122.virtualBack hx (y := my36) (z := my36) hown108 (mvT hZ108 (ow156 hw)) (mvT hZ108 (ow157 hw)) (notFace_of_selects (args := #[]) (mvT hZ108 (ow159 hw))) (mvT hZ108 (ow159 hw)) (mvT hZ108 (ow158 hw)) (by decide) (StrChars.Road.eqW (W := 0) hZ108 (own_weq hw) (kI := 4) (ow13 hw) f126 f127 f128 f129 (StrChars.Road.codOf rfl (fun c hc => (spQ c hc).2)) (own_up _ spQ) slQ sEO sVO sCO sAO (StrChars.Road.codOf rfl (fun c hc => (spO c hc).2)) (own_up _ spO) slO (O2.ext Ol125.2) P5 (by decide) (by decide)) q130a q130c (g := (FL m x0 x1 x2 x3 x4 x5 369 (VI 6) (VR b3) (VR b6) (VI 61) (VI 60) (VR qb108) [(.ref b118), (.ref qb108)])) rfl (by rw [hml]; rfl) (Steps.refl _) (argsL := [(.ref b118)]) (rest := []) (lenOf pd30 rfl) rfl (w0 rfl rfl) (B at_369) (fun _ _ => ⟨rfl, rfl, (by decide : 26 + 0 ≤ _), (by decide : 1739 + 0 ≤ _)⟩)
  dsimp only [Pt.U, Pt.locs, Pt.cells, Pt.slots] at X130 l130 y130 z130 st130 hQ130
  rw [l130, y130, z130] at X130
  obtain ⟨hor130, hL130, eq130⟩ := hQ130
  obtain rfl := own_eqv hor130
  have Nq130 := own_frn hL130 n0
  have N131 := Fr.app N123 Nq130
  have hAB : (ql cs38) = (List.set (List.set (List.set (List.set cs70 61 (46 : Int32)) 62 (46 : Int32)) 63 (46 : Int32)) 64 (34 : Int32)) := by rw [hcs70, hcs64, hcs58, hcs52, hcs38, hcs33, hcs28, hcs23, hcs18, hcs13]; rfl
  have pre132 : ∀ tgt, Steps p.tables e below (T130.setTop (FL m x0 x1 x2 x3 x4 x5 372 (VI 6) (VR b3) (VR b6) (VI 61) (VI 60) (VR qb108) [(.int (if (ql cs38) = (List.set (List.set (List.set (List.set cs70 61 (46 : Int32)) 62 (46 : Int32)) 63 (46 : Int32)) 64 (34 : Int32)) then (1 : Int32) else (0 : Int32)))])) tgt → Steps p.tables e below (s₁.setTop (entryFrame m #[(.int x0), (.int x1), (.int x2), (.int x3), (.int x4), (.int x5)] maxLocals)) tgt := by
    intro tgt kgo
    refine pre2 _ ?_
    refine XS.iload X0.here hx rfl (B at_7) rfl ?_
    refine XS.ifYes X0.here hx rfl (pc0 := 9) (pc' := 25) rfl (B at_9) rfl ((if0 _ _).trans (feq (by decide : ¬ ((6 : Int32) = (0 : Int32)))).2) (by decide) (by decide) ?_
    show GO p e below s₁ (FL m x0 x1 x2 x3 x4 x5 25 (VI 6) .unset .unset .unset .unset .unset []) _
    refine XS.iload X0.here hx rfl (B at_25) rfl ?_
    refine XS.iconst X0.here hx rfl (B at_27) ?_
    refine XS.icmpYes X0.here hx rfl (pc0 := 28) (pc' := 44) rfl (B at_28) rfl (feq (by decide : ¬ ((6 : Int32) = (1 : Int32)))).2 (by decide) (by decide) ?_
    show GO p e below s₁ (FL m x0 x1 x2 x3 x4 x5 44 (VI 6) .unset .unset .unset .unset .unset []) _
    refine XS.iload X0.here hx rfl (B at_44) rfl ?_
    refine XS.iconst X0.here hx rfl (B at_46) ?_
    refine XS.icmpYes X0.here hx rfl (pc0 := 47) (pc' := 63) rfl (B at_47) rfl (feq (by decide : ¬ ((6 : Int32) = (2 : Int32)))).2 (by decide) (by decide) ?_
    show GO p e below s₁ (FL m x0 x1 x2 x3 x4 x5 63 (VI 6) .unset .unset .unset .unset .unset []) _
    refine XS.iload X0.here hx rfl (B at_63) rfl ?_
    refine XS.iconst X0.here hx rfl (B at_65) ?_
    refine XS.icmpYes X0.here hx rfl (pc0 := 66) (pc' := 82) rfl (B at_66) rfl (feq (by decide : ¬ ((6 : Int32) = (3 : Int32)))).2 (by decide) (by decide) ?_
    show GO p e below s₁ (FL m x0 x1 x2 x3 x4 x5 82 (VI 6) .unset .unset .unset .unset .unset []) _
    refine XS.iload X0.here hx rfl (B at_82) rfl ?_
    refine XS.iconst X0.here hx rfl (B at_84) ?_
    refine XS.icmpYes X0.here hx rfl (pc0 := 85) (pc' := 103) rfl (B at_85) rfl (feq (by decide : ¬ ((6 : Int32) = (4 : Int32)))).2 (by decide) (by decide) ?_
    show GO p e below s₁ (FL m x0 x1 x2 x3 x4 x5 103 (VI 6) .unset .unset .unset .unset .unset []) _
    refine XS.iload X0.here hx rfl (B at_103) rfl ?_
    refine XS.iconst X0.here hx rfl (B at_105) ?_
    refine XS.icmpYes X0.here hx rfl (pc0 := 106) (pc' := 124) rfl (B at_106) rfl (feq (by decide : ¬ ((6 : Int32) = (5 : Int32)))).2 (by decide) (by decide) ?_
    show GO p e below s₁ (FL m x0 x1 x2 x3 x4 x5 124 (VI 6) .unset .unset .unset .unset .unset []) _
    refine XS.iload X0.here hx rfl (B at_124) rfl ?_
    refine XS.bipush X0.here hx rfl (B at_126) ?_
    refine XS.icmpNo X0.here hx rfl (B at_128) rfl (teq (by decide : (6 : Int32) = (6 : Int32))).2 ?_
    show GO p e below s₁ (FL m x0 x1 x2 x3 x4 x5 131 (VI 6) .unset .unset .unset .unset .unset []) _
    refine XS.bipush X0.here hx rfl (B at_131) ?_
    refine st3 _ ?_
    show GO p e below T3 (FL m x0 x1 x2 x3 x4 x5 135 (VI 6) .unset .unset .unset .unset .unset [(.ref b3)]) _
    refine XS.astore X3.here hx rfl (B at_135) rfl rfl (l' := #[.val (.int x0), .val (.int x1), .val (.int x2), .val (.int x3), .val (.int x4), .val (.int x5), .val (.int (6 : Int32)), .val (.ref b3), .unset, .unset, .unset, .unset]) rfl ?_
    refine XS.bipush X3.here hx rfl (B at_137) ?_
    refine st6 _ ?_
    show GO p e below T6 (FL m x0 x1 x2 x3 x4 x5 141 (VI 6) (VR b3) .unset .unset .unset .unset [(.ref b6)]) _
    refine XS.astore X6.here hx rfl (B at_141) rfl rfl (l' := #[.val (.int x0), .val (.int x1), .val (.int x2), .val (.int x3), .val (.int x4), .val (.int x5), .val (.int (6 : Int32)), .val (.ref b3), .val (.ref b6), .unset, .unset, .unset]) rfl ?_
    refine XS.goto X6.here hx rfl (pc0 := 143) (pc' := 158) rfl (B at_143) (by decide) (by decide) ?_
    refine XS.aload X6.here hx rfl (B at_158) rfl rfl ?_
    refine X6.arraylength hx (by rw [e6]; exact Ar12.1) (State.isArrayOf_alike hZ.alike Ar12.2.1) (g := (mkF m 160 #[.val (.int x0), .val (.int x1), .val (.int x2), .val (.int x3), .val (.int x4), .val (.int x5), .val (.int (6 : Int32)), .val (.ref b3), .val (.ref b6), .unset, .unset, .unset] [(.ref b3)])) rfl rfl (B at_160) _ ?_
    rw [len_of S12 M12]
    show GO p e below T6 (FL m x0 x1 x2 x3 x4 x5 161 (VI 6) (VR b3) (VR b6) .unset .unset .unset [(.int 61)]) _
    refine XS.istore X6.here hx rfl (B at_161) rfl (l' := #[.val (.int x0), .val (.int x1), .val (.int x2), .val (.int x3), .val (.int x4), .val (.int x5), .val (.int (6 : Int32)), .val (.ref b3), .val (.ref b6), .val (.int (61 : Int32)), .unset, .unset]) rfl ?_
    refine XS.aload X6.here hx rfl (B at_163) rfl rfl ?_
    refine XS.iconst X6.here hx rfl (B at_165) ?_
    refine XS.iloadN X6.here hx rfl (B at_166) rfl ?_
    refine st13 _ ?_
    show GO p e below T13 (FL m x0 x1 x2 x3 x4 x5 170 (VI 6) (VR b3) (VR b6) (VI 61) .unset .unset []) _
    refine XS.aload X13.here hx rfl (B at_170) rfl rfl ?_
    refine XS.iconst X13.here hx rfl (B at_172) ?_
    refine XS.iloadN X13.here hx rfl (B at_173) rfl ?_
    refine st18 _ ?_
    show GO p e below T18 (FL m x0 x1 x2 x3 x4 x5 177 (VI 6) (VR b3) (VR b6) (VI 61) .unset .unset []) _
    refine XS.aload X18.here hx rfl (B at_177) rfl rfl ?_
    refine XS.bipush X18.here hx rfl (B at_179) ?_
    refine XS.iloadN X18.here hx rfl (B at_181) rfl ?_
    refine st23 _ ?_
    show GO p e below T23 (FL m x0 x1 x2 x3 x4 x5 185 (VI 6) (VR b3) (VR b6) (VI 61) .unset .unset []) _
    refine XS.aload X23.here hx rfl (B at_185) rfl rfl ?_
    refine XS.bipush X23.here hx rfl (B at_187) ?_
    refine XS.iloadN X23.here hx rfl (B at_189) rfl ?_
    refine st28 _ ?_
    show GO p e below T28 (FL m x0 x1 x2 x3 x4 x5 193 (VI 6) (VR b3) (VR b6) (VI 61) .unset .unset []) _
    refine XS.aload X28.here hx rfl (B at_193) rfl rfl ?_
    refine XS.bipush X28.here hx rfl (B at_195) ?_
    refine XS.iload X28.here hx rfl (B at_197) rfl ?_
    refine st33 _ ?_
    show GO p e below T33 (FL m x0 x1 x2 x3 x4 x5 202 (VI 6) (VR b3) (VR b6) (VI 61) .unset .unset []) _
    refine XS.aload X33.here hx rfl (B at_202) rfl rfl ?_
    refine XS.iload X33.here hx rfl (B at_204) rfl ?_
    refine XS.iconst X33.here hx rfl (B at_206) ?_
    refine XS.isub X33.here hx rfl (B at_207) rfl ?_
    refine XS.iload X33.here hx rfl (B at_208) rfl ?_
    refine XS.bipush X33.here hx rfl (B at_210) ?_
    refine XS.iushr X33.here hx rfl (B at_212) rfl ?_
    refine st38 _ ?_
    show GO p e below T38 (FL m x0 x1 x2 x3 x4 x5 216 (VI 6) (VR b3) (VR b6) (VI 61) .unset .unset []) _
    refine XS.iload X38.here hx rfl (B at_216) rfl ?_
    refine XS.bipush X38.here hx rfl (B at_218) ?_
    refine st43 _ ?_
    show GO p e below T43 (FL m x0 x1 x2 x3 x4 x5 223 (VI 6) (VR b3) (VR b6) (VI 61) .unset .unset [(.int 60)]) _
    refine XS.istore X43.here hx rfl (B at_223) rfl (l' := #[.val (.int x0), .val (.int x1), .val (.int x2), .val (.int x3), .val (.int x4), .val (.int x5), .val (.int (6 : Int32)), .val (.ref b3), .val (.ref b6), .val (.int (61 : Int32)), .val (.int (60 : Int32)), .unset]) rfl ?_
    refine XS.aload X43.here hx rfl (B at_225) rfl rfl ?_
    refine XS.iconst X43.here hx rfl (B at_227) ?_
    refine XS.bipush X43.here hx rfl (B at_228) ?_
    refine st47 _ ?_
    show GO p e below T47 (FL m x0 x1 x2 x3 x4 x5 231 (VI 6) (VR b3) (VR b6) (VI 61) (VI 60) .unset []) _
    refine XS.aload X47.here hx rfl (B at_231) rfl rfl ?_
    refine XS.aload X47.here hx rfl (B at_233) rfl rfl ?_
    refine XS.iconst X47.here hx rfl (B at_235) ?_
    refine XS.iload X47.here hx rfl (B at_236) rfl ?_
    refine st52 _ ?_
    show GO p e below T52 (FL m x0 x1 x2 x3 x4 x5 241 (VI 6) (VR b3) (VR b6) (VI 61) (VI 60) .unset []) _
    refine XS.aload X52.here hx rfl (B at_241) rfl rfl ?_
    refine XS.aload X52.here hx rfl (B at_243) rfl rfl ?_
    refine XS.iconst X52.here hx rfl (B at_245) ?_
    refine XS.iload X52.here hx rfl (B at_246) rfl ?_
    refine st58 _ ?_
    show GO p e below T58 (FL m x0 x1 x2 x3 x4 x5 251 (VI 6) (VR b3) (VR b6) (VI 61) (VI 60) .unset []) _
    refine XS.aload X58.here hx rfl (B at_251) rfl rfl ?_
    refine XS.aload X58.here hx rfl (B at_253) rfl rfl ?_
    refine XS.bipush X58.here hx rfl (B at_255) ?_
    refine XS.iload X58.here hx rfl (B at_257) rfl ?_
    refine st64 _ ?_
    show GO p e below T64 (FL m x0 x1 x2 x3 x4 x5 262 (VI 6) (VR b3) (VR b6) (VI 61) (VI 60) .unset []) _
    refine XS.aload X64.here hx rfl (B at_262) rfl rfl ?_
    refine XS.aload X64.here hx rfl (B at_264) rfl rfl ?_
    refine XS.bipush X64.here hx rfl (B at_266) ?_
    refine XS.iload X64.here hx rfl (B at_268) rfl ?_
    refine st70 _ ?_
    show GO p e below T70 (FL m x0 x1 x2 x3 x4 x5 273 (VI 6) (VR b3) (VR b6) (VI 61) (VI 60) .unset []) _
    refine XS.aload X70.here hx rfl (B at_273) rfl rfl ?_
    refine XS.aload X70.here hx rfl (B at_275) rfl rfl ?_
    refine XS.bipush X70.here hx rfl (B at_277) ?_
    refine XS.iload X70.here hx rfl (B at_279) rfl ?_
    refine st75 _ ?_
    show GO p e below T75 (FL m x0 x1 x2 x3 x4 x5 284 (VI 6) (VR b3) (VR b6) (VI 61) (VI 60) .unset []) _
    refine XS.aload X75.here hx rfl (B at_284) rfl rfl ?_
    refine XS.aload X75.here hx rfl (B at_286) rfl rfl ?_
    refine XS.iload X75.here hx rfl (B at_288) rfl ?_
    refine XS.iconst X75.here hx rfl (B at_290) ?_
    refine XS.isub X75.here hx rfl (B at_291) rfl ?_
    refine XS.iload X75.here hx rfl (B at_292) rfl ?_
    refine st77 _ ?_
    show GO p e below T77 (FL m x0 x1 x2 x3 x4 x5 297 (VI 6) (VR b3) (VR b6) (VI 61) (VI 60) .unset []) _
    refine XS.iload X77.here hx rfl (B at_297) rfl ?_
    refine XS.bipush X77.here hx rfl (B at_299) ?_
    refine XS.icmpNo X77.here hx rfl (B at_301) rfl (tlt (by decide : (60 : Int32) < (61 : Int32))).2.2.2 ?_
    show GO p e below T77 (FL m x0 x1 x2 x3 x4 x5 304 (VI 6) (VR b3) (VR b6) (VI 61) (VI 60) .unset []) _
    refine XS.aload X77.here hx rfl (B at_304) rfl rfl ?_
    refine XS.bipush X77.here hx rfl (B at_306) ?_
    refine XS.bipush X77.here hx rfl (B at_308) ?_
    refine st80 _ ?_
    show GO p e below T80 (FL m x0 x1 x2 x3 x4 x5 311 (VI 6) (VR b3) (VR b6) (VI 61) (VI 60) .unset []) _
    refine XS.aload X80.here hx rfl (B at_311) rfl rfl ?_
    refine XS.bipush X80.here hx rfl (B at_313) ?_
    refine XS.bipush X80.here hx rfl (B at_315) ?_
    refine st85 _ ?_
    show GO p e below T85 (FL m x0 x1 x2 x3 x4 x5 318 (VI 6) (VR b3) (VR b6) (VI 61) (VI 60) .unset []) _
    refine XS.aload X85.here hx rfl (B at_318) rfl rfl ?_
    refine XS.bipush X85.here hx rfl (B at_320) ?_
    refine XS.bipush X85.here hx rfl (B at_322) ?_
    refine st90 _ ?_
    show GO p e below T90 (FL m x0 x1 x2 x3 x4 x5 325 (VI 6) (VR b3) (VR b6) (VI 61) (VI 60) .unset []) _
    refine XS.aload X90.here hx rfl (B at_325) rfl rfl ?_
    refine XS.bipush X90.here hx rfl (B at_327) ?_
    refine XS.bipush X90.here hx rfl (B at_329) ?_
    refine st95 _ ?_
    show GO p e below T95 (FL m x0 x1 x2 x3 x4 x5 332 (VI 6) (VR b3) (VR b6) (VI 61) (VI 60) .unset []) _
    refine XS.goto X95.here hx rfl (pc0 := 332) (pc' := 344) rfl (B at_332) (by decide) (by decide) ?_
    refine st100 _ ?_
    show GO p e below T100 (FL m x0 x1 x2 x3 x4 x5 347 (VI 6) (VR b3) (VR b6) (VI 61) (VI 60) .unset [(.ref b100)]) _
    refine XS.dup X100.here hx rfl (B at_347) rfl rfl ?_
    refine XS.aload X100.here hx rfl (B at_348) rfl rfl ?_
    refine st104.trans ?_
    show GO p e below T104 (FL m x0 x1 x2 x3 x4 x5 353 (VI 6) (VR b3) (VR b6) (VI 61) (VI 60) .unset [(.ref b100)]) _
    refine st108.trans ?_
    show GO p e below T108 (FL m x0 x1 x2 x3 x4 x5 356 (VI 6) (VR b3) (VR b6) (VI 61) (VI 60) .unset [(.ref qb108)]) _
    refine XS.astore X108.here hx rfl (B at_356) rfl rfl (l' := #[.val (.int x0), .val (.int x1), .val (.int x2), .val (.int x3), .val (.int x4), .val (.int x5), .val (.int (6 : Int32)), .val (.ref b3), .val (.ref b6), .val (.int (61 : Int32)), .val (.int (60 : Int32)), .val (.ref qb108)]) rfl ?_
    refine XS.aload X108.here hx rfl (B at_358) rfl rfl ?_
    refine st118 _ ?_
    show GO p e below T118 (FL m x0 x1 x2 x3 x4 x5 363 (VI 6) (VR b3) (VR b6) (VI 61) (VI 60) (VR qb108) [(.ref b118), (.ref qb108)]) _
    refine XS.dup X118.here hx rfl (B at_363) rfl rfl ?_
    refine XS.aload X118.here hx rfl (B at_364) rfl rfl ?_
    refine st122.trans ?_
    show GO p e below T122 (FL m x0 x1 x2 x3 x4 x5 369 (VI 6) (VR b3) (VR b6) (VI 61) (VI 60) (VR qb108) [(.ref b118), (.ref qb108)]) _
    refine st130.trans ?_
    show GO p e below T130 (FL m x0 x1 x2 x3 x4 x5 372 (VI 6) (VR b3) (VR b6) (VI 61) (VI 60) (VR qb108) [(.int (if (ql cs38) = (List.set (List.set (List.set (List.set cs70 61 (46 : Int32)) 62 (46 : Int32)) 63 (46 : Int32)) 64 (34 : Int32)) then (1 : Int32) else (0 : Int32)))]) _
    exact kgo
  have pre133 : ∀ tgt, Steps p.tables e below (T130.setTop (FL m x0 x1 x2 x3 x4 x5 372 (VI 6) (VR b3) (VR b6) (VI 61) (VI 60) (VR qb108) [(.int 1)])) tgt → Steps p.tables e below (s₁.setTop (entryFrame m #[(.int x0), (.int x1), (.int x2), (.int x3), (.int x4), (.int x5)] maxLocals)) tgt := by
    have q := pre132
    rw [if_pos hAB] at q
    exact q
  obtain ⟨fs, hretL, hrun, hended, hEnd⟩ := Stand.leaveW X130 hS108 (by rw [eq130]; exact hk124) (v := some (.int (1 : Int32))) (fun h => by rw [Bd.returns] at h; cases h)
  have hCf : CHr Z EL0 s.vm s.heap T130.vm T130.heap := by rw [hh, eq130]; exact CH124.trans (CHv.at X130 hZ108 (own_EW hw) CH124.1)
  refine ⟨_, _, pre133 _ ?_, hrun, hended, _, _, rfl, ?_, hCf, hEnd.1, hEnd.2.1, hEnd.2.2.1, hEnd.2.2.2.mono (by decide) (by decide)⟩
  · exact retOut X130 hx Bd.returns rfl (Or.inl ⟨rfl, Or.inr (Or.inl rfl), _, rfl⟩) (B at_372) hretL
  · show Q_rm0k6 Z x0 x1 x2 x3 x4 x5 G1 fm h0 n0 _ T130.heap _
    rw [eq130]
    exact ⟨rfl, N131⟩
def Q_rm0k7 (Z : State) (x0 : Int32) (x1 : Int32) (x2 : Int32) (x3 : Int32) (x4 : Int32) (x5 : Int32) (G1 : Int32) (fm : Value) (h0 : Heap) (n0 : Nat) (v : Option Value) (h : Heap) (L : List Loc) : Prop := v = some (.int (1 : Int32)) ∧ Fr n0 L
set_option maxRecDepth 65536 in
set_option maxHeartbeats 40000000 in
theorem rm0k7 (l : Launch) (Z : State) (a0 : Array Value) (hw : HW a0 Z) (ws : List Jvm.Cond) (x0 : Int32) (x1 : Int32) (x2 : Int32) (x3 : Int32) (x4 : Int32) (x5 : Int32) (G1 : Int32) (fm : Value) (h0 : Heap) (n0 : Nat) (O0 : Old Z n0 h0) (hkc : (x5 &&& (7 : Int32)) = (7 : Int32)) (O2 : Sta Z Z.heap "java/lang/String" "COMPACT_STRINGS" "Z" (.int G1)) (P5 : ¬ (G1 = (0 : Int32))) (O4 : Sta Z Z.heap "jdk/internal/util/Preconditions" "SIOOBE_FORMATTER" "Ljava/util/function/BiFunction;" fm) (rf : fm.isRef = true) :
    MetFree l x (head1 (Jvm.Cond.code x code maxLocals ret :: ws) room_1) (fun aa U => aa = #[(.int x0), (.int x1), (.int x2), (.int x3), (.int x4), (.int x5)] ∧ Z.Warmed39 U.vm ∧ U.heap = h0 ∧ CHv Z EL0 U.vm h0) (fun _ _ _ _ _ => True) (fun _ U o U' => ∃ v L, o = .returned v ∧ Q_rm0k7 Z x0 x1 x2 x3 x4 x5 G1 fm h0 n0 v U'.heap L ∧ CHr Z EL0 U.vm U.heap U'.vm U'.heap ∧ ReturnedEndW U o U' L 26 1745) := by
  refine MetFree.of_bodySF (plainFor_of_name pn8) hisR ?_
  intro p e s m args below meth c s₁ Bd hml0 hP hK
  obtain ⟨rfl, hZ, hh, hCH⟩ := hP
  have hx := Bd.exec
  have hby := Bd.bytes
  have B := fun {pc : Nat} {r} (h : decode code pc = r) => hb hby h
  have hml : c.maxLocals = 12 := hml0
  have hown : s.vm.findClass "com/example/atropos/atropos/io/CurveTextQuotePinLaw" = some m.cls := findClass_of_methodNamed Bd.named
  have hnm := (name_of_methodNamed Bd.named Bd.method).1
  have X0 : Stand p l e room_1 (s.setVm s.vm) m #[(.int x0), (.int x1), (.int x2), (.int x3), (.int x4), (.int x5)] below meth c s₁ [] 0 0 := Stand.of_body Bd
  have e0 : s₁.heap = h0 := by rw [← hh, Bd.state]; rfl
  have N0 := Fr.nil n0
  have pre0 : ∀ tgt, Steps p.tables e below (s₁.setTop (mkF m 0 #[.val (.int x0), .val (.int x1), .val (.int x2), .val (.int x3), .val (.int x4), .val (.int x5), .unset, .unset, .unset, .unset, .unset, .unset] [])) tgt → Steps p.tables e below (s₁.setTop (entryFrame m #[(.int x0), (.int x1), (.int x2), (.int x3), (.int x4), (.int x5)] maxLocals)) tgt := fun tgt kgo => castTop (ef_rm0k0 m x0 x1 x2 x3 x4 x5) kgo
  have hS0 : s.Since s.vm 0 := (State.WarmedH.refl s).since 0
  have hk0 : 0 ≤ h0.size := Nat.zero_le _
  have CH0 : CHr Z EL0 s.vm h0 s.vm h0 := CHr.refl hCH
  have pre1 : ∀ tgt, Steps p.tables e below (s₁.setTop (FL m x0 x1 x2 x3 x4 x5 7 (VI (x5 &&& (7 : Int32))) .unset .unset .unset .unset .unset [])) tgt → Steps p.tables e below (s₁.setTop (entryFrame m #[(.int x0), (.int x1), (.int x2), (.int x3), (.int x4), (.int x5)] maxLocals)) tgt := by
    intro tgt kgo
    refine pre0 _ ?_
    refine XS.iload X0.here hx rfl (B at_0) rfl ?_
    refine XS.bipush X0.here hx rfl (B at_2) ?_
    refine XS.iand X0.here hx rfl (B at_4) rfl ?_
    refine XS.istore X0.here hx rfl (B at_5) rfl (l' := #[.val (.int x0), .val (.int x1), .val (.int x2), .val (.int x3), .val (.int x4), .val (.int x5), .val (.int (x5 &&& (7 : Int32))), .unset, .unset, .unset, .unset, .unset]) rfl ?_
    exact kgo
  have pre2 : ∀ tgt, Steps p.tables e below (s₁.setTop (FL m x0 x1 x2 x3 x4 x5 7 (VI 7) .unset .unset .unset .unset .unset [])) tgt → Steps p.tables e below (s₁.setTop (entryFrame m #[(.int x0), (.int x1), (.int x2), (.int x3), (.int x4), (.int x5)] maxLocals)) tgt := by
    have q := pre1
    rw [hkc] at q
    exact q
  obtain ⟨T3, h3, k3, X3, e3, E3, A3, st3⟩ := newP (aty := .char) X0 hx hZ (ow0 hw) e0 (g := (FL m x0 x1 x2 x3 x4 x5 148 (VI 7) .unset .unset .unset .unset .unset [(.int 64)])) rfl (B at_148) rfl (by decide) (cap := 64) (by decide) (by decide) (by decide) (by decide)
  obtain ⟨b3, g3⟩ : ∃ z, z = h0.size := ⟨_, rfl⟩
  rw [← g3] at A3 st3
  have V3 : Arv Z h3 b3 k3 .char (64 : Int32) (List.replicate 64 (.int (0 : Int32))) (.int (0 : Int32)) := (Arv.new A3 (by decide)).pad (pad_rep [] (.int (0 : Int32)) 64)
  have gn3 : n0 ≤ b3 := Nat.le_trans (own_sz O0) (Nat.le_of_eq g3.symm)
  have Y3 := Safe.ext E3 CH0.1 (Safe.new (x := b3) (Nat.le_of_eq g3.symm))
  have CH4 := CH0.trans (CHr.ext E3 CH0.1)
  have hk4 := Nat.le_trans hk0 E3.1
  have Ol5 := O0.ext E3
  obtain ⟨T6, h6, k6, X6, e6, E6, A6, st6⟩ := newP (aty := .char) X3 hx hZ (ow0 hw) e3 (g := (FL m x0 x1 x2 x3 x4 x5 154 (VI 7) (VR b3) .unset .unset .unset .unset [(.int 65)])) rfl (B at_154) rfl (by decide) (cap := 65) (by decide) (by decide) (by decide) (by decide)
  obtain ⟨b6, g6⟩ : ∃ z, z = h3.size := ⟨_, rfl⟩
  rw [← g6] at A6 st6
  have V6 : Arv Z h6 b6 k6 .char (65 : Int32) (List.replicate 65 (.int (0 : Int32))) (.int (0 : Int32)) := (Arv.new A6 (by decide)).pad (pad_rep [] (.int (0 : Int32)) 65)
  have gn6 : n0 ≤ b6 := Nat.le_trans (own_sz Ol5) (Nat.le_of_eq g6.symm)
  have neb3_6 : b3 ≠ b6 := Nat.ne_of_lt (Nat.lt_of_lt_of_le V3.lt (Nat.le_of_eq g6.symm))
  have Y6 := Safe.ext E6 CH4.1 (Safe.new (x := b6) (Nat.le_of_eq g6.symm))
  have CH7 := CH4.trans (CHr.ext E6 CH4.1)
  have hk7 := Nat.le_trans hk4 E6.1
  have Ol8 := Ol5.ext E6
  have f10 := (V3.ext E6)
  have Vm9 : Arv Z h6 b3 k3 .char (64 : Int32) (List.map Value.int (List.replicate 64 (0 : Int32))) (.int (0 : Int32)) := by have q := f10; rw [List.map_replicate]; exact q
  have Vm11 : Arv Z h6 b6 k6 .char (65 : Int32) (List.map Value.int (List.replicate 65 (0 : Int32))) (.int (0 : Int32)) := by have q := V6; rw [List.map_replicate]; exact q
  obtain ⟨cl12, Ar12, q12, S12, M12, H12, G12⟩ := id Vm9
  obtain ⟨_, _, ⟨T13, L13, k13, n13⟩, -, X13, ⟨Lc13, hQ13, l13, y13, z13⟩, st13⟩ := Jvm.LawKit.callS X6 hx (y := my34) hown (mvT hZ (ow1 hw)) (mvT hZ (ow2 hw)) (mvT hZ (ow3 hw)) (mvT hZ (ow4 hw)) (by decide) (backOf (W := 0) (rmpi l Z a0 hw [] b3 (0 : Int32) x0 k3 (List.replicate 64 (0 : Int32)) 0 64 h6 n0 Ol8 Vm9 (by simp only [List.length_replicate]) rfl (by decide) (by decide) gn3) hZ (ow4 hw) (ow3 hw) (by decide) (by decide)) (g := (FL m x0 x1 x2 x3 x4 x5 167 (VI 7) (VR b3) (VR b6) (VI 64) .unset .unset [(.int x0), (.int 0), (.ref b3)])) rfl (by rw [hml]; rfl) (argsL := [(.ref b3), (.int 0), (.int x0)]) (rest := []) (lenOf pd26 rfl) rfl (w0 rfl rfl) (B at_167) (fun _ _ => ⟨rfl, e6, (by decide : 2 + 0 ≤ _), (by decide : 129 + 0 ≤ _)⟩)
  dsimp only [Pt.U, Pt.locs, Pt.cells, Pt.slots] at X13 l13 y13 z13 st13 hQ13
  rw [l13, y13, z13] at X13
  obtain ⟨rfl, Nq13, kp13, na13⟩ := hQ13
  have N14 := Fr.app N0 Nq13
  have f15 := (Safe.ext E6 CH4.1 Y3)
  have CH16 := CH7.trans (CHr.keep kp13 (sfS f15 sf0) CH7.1)
  have hk16 := Nat.le_trans hk7 kp13.1
  have Ol17 := Ol8.keep kp13 (allS gn3 all0)
  obtain ⟨cs13, hcs13⟩ : ∃ z, z = List.set (List.replicate 64 (0 : Int32)) 0 (x0 &&& (255 : Int32)) := ⟨_, rfl⟩
  rw [← hcs13] at na13
  have lc13 : List.length cs13 = 64 := by rw [hcs13, List.length_set]; exact (by simp only [List.length_replicate])
  have bc13 : Byt cs13 := by rw [hcs13]; exact own_setb (own_rep0 64) 0 (own_a255 _)
  obtain ⟨_, _, ⟨T18, L18, k18, n18⟩, -, X18, ⟨Lc18, hQ18, l18, y18, z18⟩, st18⟩ := Jvm.LawKit.callS X13 hx (y := my34) hown (mvT hZ (ow1 hw)) (mvT hZ (ow2 hw)) (mvT hZ (ow3 hw)) (mvT hZ (ow4 hw)) (by decide) (backOf (W := 0) (rmpi l Z a0 hw [] b3 (1 : Int32) x1 k3 cs13 1 64 T13.heap n0 Ol17 na13 lc13 rfl (by decide) (by decide) gn3) hZ (ow4 hw) (ow3 hw) (by decide) (by decide)) (g := (FL m x0 x1 x2 x3 x4 x5 174 (VI 7) (VR b3) (VR b6) (VI 64) .unset .unset [(.int x1), (.int 1), (.ref b3)])) rfl (by rw [hml]; rfl) (argsL := [(.ref b3), (.int 1), (.int x1)]) (rest := []) (lenOf pd26 rfl) rfl (w0 rfl rfl) (B at_174) (fun _ _ => ⟨rfl, rfl, (by decide : 2 + 0 ≤ _), (by decide : 129 + 0 ≤ _)⟩)
  dsimp only [Pt.U, Pt.locs, Pt.cells, Pt.slots] at X18 l18 y18 z18 st18 hQ18
  rw [l18, y18, z18] at X18
  obtain ⟨rfl, Nq18, kp18, na18⟩ := hQ18
  have N19 := Fr.app N14 Nq18
  have f20 := (Safe.keep kp13 (sfS f15 sf0) CH7.1 f15)
  have CH21 := CH16.trans (CHr.keep kp18 (sfS f20 sf0) CH16.1)
  have hk21 := Nat.le_trans hk16 kp18.1
  have Ol22 := Ol17.keep kp18 (allS gn3 all0)
  obtain ⟨cs18, hcs18⟩ : ∃ z, z = List.set cs13 1 (x1 &&& (255 : Int32)) := ⟨_, rfl⟩
  rw [← hcs18] at na18
  have lc18 : List.length cs18 = 64 := by rw [hcs18, List.length_set]; exact lc13
  have bc18 : Byt cs18 := by rw [hcs18]; exact own_setb bc13 1 (own_a255 _)
  obtain ⟨_, _, ⟨T23, L23, k23, n23⟩, -, X23, ⟨Lc23, hQ23, l23, y23, z23⟩, st23⟩ := Jvm.LawKit.callS X18 hx (y := my34) hown (mvT hZ (ow1 hw)) (mvT hZ (ow2 hw)) (mvT hZ (ow3 hw)) (mvT hZ (ow4 hw)) (by decide) (backOf (W := 0) (rmpi l Z a0 hw [] b3 (58 : Int32) x2 k3 cs18 58 64 T18.heap n0 Ol22 na18 lc18 rfl (by decide) (by decide) gn3) hZ (ow4 hw) (ow3 hw) (by decide) (by decide)) (g := (FL m x0 x1 x2 x3 x4 x5 182 (VI 7) (VR b3) (VR b6) (VI 64) .unset .unset [(.int x2), (.int 58), (.ref b3)])) rfl (by rw [hml]; rfl) (argsL := [(.ref b3), (.int 58), (.int x2)]) (rest := []) (lenOf pd26 rfl) rfl (w0 rfl rfl) (B at_182) (fun _ _ => ⟨rfl, rfl, (by decide : 2 + 0 ≤ _), (by decide : 129 + 0 ≤ _)⟩)
  dsimp only [Pt.U, Pt.locs, Pt.cells, Pt.slots] at X23 l23 y23 z23 st23 hQ23
  rw [l23, y23, z23] at X23
  obtain ⟨rfl, Nq23, kp23, na23⟩ := hQ23
  have N24 := Fr.app N19 Nq23
  have f25 := (Safe.keep kp18 (sfS f20 sf0) CH16.1 f20)
  have CH26 := CH21.trans (CHr.keep kp23 (sfS f25 sf0) CH21.1)
  have hk26 := Nat.le_trans hk21 kp23.1
  have Ol27 := Ol22.keep kp23 (allS gn3 all0)
  obtain ⟨cs23, hcs23⟩ : ∃ z, z = List.set cs18 58 (x2 &&& (255 : Int32)) := ⟨_, rfl⟩
  rw [← hcs23] at na23
  have lc23 : List.length cs23 = 64 := by rw [hcs23, List.length_set]; exact lc18
  have bc23 : Byt cs23 := by rw [hcs23]; exact own_setb bc18 58 (own_a255 _)
  obtain ⟨_, _, ⟨T28, L28, k28, n28⟩, -, X28, ⟨Lc28, hQ28, l28, y28, z28⟩, st28⟩ := Jvm.LawKit.callS X23 hx (y := my34) hown (mvT hZ (ow1 hw)) (mvT hZ (ow2 hw)) (mvT hZ (ow3 hw)) (mvT hZ (ow4 hw)) (by decide) (backOf (W := 0) (rmpi l Z a0 hw [] b3 (59 : Int32) x3 k3 cs23 59 64 T23.heap n0 Ol27 na23 lc23 rfl (by decide) (by decide) gn3) hZ (ow4 hw) (ow3 hw) (by decide) (by decide)) (g := (FL m x0 x1 x2 x3 x4 x5 190 (VI 7) (VR b3) (VR b6) (VI 64) .unset .unset [(.int x3), (.int 59), (.ref b3)])) rfl (by rw [hml]; rfl) (argsL := [(.ref b3), (.int 59), (.int x3)]) (rest := []) (lenOf pd26 rfl) rfl (w0 rfl rfl) (B at_190) (fun _ _ => ⟨rfl, rfl, (by decide : 2 + 0 ≤ _), (by decide : 129 + 0 ≤ _)⟩)
  dsimp only [Pt.U, Pt.locs, Pt.cells, Pt.slots] at X28 l28 y28 z28 st28 hQ28
  rw [l28, y28, z28] at X28
  obtain ⟨rfl, Nq28, kp28, na28⟩ := hQ28
  have N29 := Fr.app N24 Nq28
  have f30 := (Safe.keep kp23 (sfS f25 sf0) CH21.1 f25)
  have CH31 := CH26.trans (CHr.keep kp28 (sfS f30 sf0) CH26.1)
  have hk31 := Nat.le_trans hk26 kp28.1
  have Ol32 := Ol27.keep kp28 (allS gn3 all0)
  obtain ⟨cs28, hcs28⟩ : ∃ z, z = List.set cs23 59 (x3 &&& (255 : Int32)) := ⟨_, rfl⟩
  rw [← hcs28] at na28
  have lc28 : List.length cs28 = 64 := by rw [hcs28, List.length_set]; exact lc23
  have bc28 : Byt cs28 := by rw [hcs28]; exact own_setb bc23 59 (own_a255 _)
  obtain ⟨_, _, ⟨T33, L33, k33, n33⟩, -, X33, ⟨Lc33, hQ33, l33, y33, z33⟩, st33⟩ := Jvm.LawKit.callS X28 hx (y := my34) hown (mvT hZ (ow1 hw)) (mvT hZ (ow2 hw)) (mvT hZ (ow3 hw)) (mvT hZ (ow4 hw)) (by decide) (backOf (W := 0) (rmpi l Z a0 hw [] b3 (60 : Int32) x4 k3 cs28 60 64 T28.heap n0 Ol32 na28 lc28 rfl (by decide) (by decide) gn3) hZ (ow4 hw) (ow3 hw) (by decide) (by decide)) (g := (FL m x0 x1 x2 x3 x4 x5 199 (VI 7) (VR b3) (VR b6) (VI 64) .unset .unset [(.int x4), (.int 60), (.ref b3)])) rfl (by rw [hml]; rfl) (argsL := [(.ref b3), (.int 60), (.int x4)]) (rest := []) (lenOf pd26 rfl) rfl (w0 rfl rfl) (B at_199) (fun _ _ => ⟨rfl, rfl, (by decide : 2 + 0 ≤ _), (by decide : 129 + 0 ≤ _)⟩)
  dsimp only [Pt.U, Pt.locs, Pt.cells, Pt.slots] at X33 l33 y33 z33 st33 hQ33
  rw [l33, y33, z33] at X33
  obtain ⟨rfl, Nq33, kp33, na33⟩ := hQ33
  have N34 := Fr.app N29 Nq33
  have f35 := (Safe.keep kp28 (sfS f30 sf0) CH26.1 f30)
  have CH36 := CH31.trans (CHr.keep kp33 (sfS f35 sf0) CH31.1)
  have hk36 := Nat.le_trans hk31 kp33.1
  have Ol37 := Ol32.keep kp33 (allS gn3 all0)
  obtain ⟨cs33, hcs33⟩ : ∃ z, z = List.set cs28 60 (x4 &&& (255 : Int32)) := ⟨_, rfl⟩
  rw [← hcs33] at na33
  have lc33 : List.length cs33 = 64 := by rw [hcs33, List.length_set]; exact lc28
  have bc33 : Byt cs33 := by rw [hcs33]; exact own_setb bc28 60 (own_a255 _)
  obtain ⟨_, _, ⟨T38, L38, k38, n38⟩, -, X38, ⟨Lc38, hQ38, l38, y38, z38⟩, st38⟩ := Jvm.LawKit.callS X33 hx (y := my34) hown (mvT hZ (ow1 hw)) (mvT hZ (ow2 hw)) (mvT hZ (ow3 hw)) (mvT hZ (ow4 hw)) (by decide) (backOf (W := 0) (rmpi l Z a0 hw [] b3 (63 : Int32) ((x5.toUInt32 >>> ((8 : Int32) &&& 31).toUInt32).toInt32) k3 cs33 63 64 T33.heap n0 Ol37 na33 lc33 rfl (by decide) (by decide) gn3) hZ (ow4 hw) (ow3 hw) (by decide) (by decide)) (g := (FL m x0 x1 x2 x3 x4 x5 213 (VI 7) (VR b3) (VR b6) (VI 64) .unset .unset [(.int ((x5.toUInt32 >>> ((8 : Int32) &&& 31).toUInt32).toInt32)), (.int 63), (.ref b3)])) rfl (by rw [hml]; rfl) (argsL := [(.ref b3), (.int 63), (.int ((x5.toUInt32 >>> ((8 : Int32) &&& 31).toUInt32).toInt32))]) (rest := []) (lenOf pd26 rfl) rfl (w0 rfl rfl) (B at_213) (fun _ _ => ⟨rfl, rfl, (by decide : 2 + 0 ≤ _), (by decide : 129 + 0 ≤ _)⟩)
  dsimp only [Pt.U, Pt.locs, Pt.cells, Pt.slots] at X38 l38 y38 z38 st38 hQ38
  rw [l38, y38, z38] at X38
  obtain ⟨rfl, Nq38, kp38, na38⟩ := hQ38
  have N39 := Fr.app N34 Nq38
  have f40 := (Safe.keep kp33 (sfS f35 sf0) CH31.1 f35)
  have CH41 := CH36.trans (CHr.keep kp38 (sfS f40 sf0) CH36.1)
  have hk41 := Nat.le_trans hk36 kp38.1
  have Ol42 := Ol37.keep kp38 (allS gn3 all0)
  obtain ⟨cs38, hcs38⟩ : ∃ z, z = List.set cs33 63 (((x5.toUInt32 >>> ((8 : Int32) &&& 31).toUInt32).toInt32) &&& (255 : Int32)) := ⟨_, rfl⟩
  rw [← hcs38] at na38
  have lc38 : List.length cs38 = 64 := by rw [hcs38, List.length_set]; exact lc33
  have bc38 : Byt cs38 := by rw [hcs38]; exact own_setb bc33 63 (own_a255 _)
  obtain ⟨_, _, ⟨T43, L43, k43, n43⟩, -, X43, ⟨Lc43, hQ43, l43, y43, z43⟩, st43⟩ := Jvm.LawKit.callS X38 hx (y := my7) hown (mvT hZ (ow5 hw)) (mvT hZ (ow6 hw)) (mvT hZ (ow7 hw)) (mvT hZ (ow8 hw)) (by decide) (backOf (W := 0) (rmmin l Z a0 hw [] (64 : Int32) (60 : Int32)  T38.heap n0 Ol42 ) hZ (ow8 hw) (ow7 hw) (by decide) (by decide)) (g := (FL m x0 x1 x2 x3 x4 x5 220 (VI 7) (VR b3) (VR b6) (VI 64) .unset .unset [(.int 60), (.int 64)])) rfl (by rw [hml]; rfl) (argsL := [(.int 64), (.int 60)]) (rest := []) (lenOf pd2 rfl) rfl (w0 rfl rfl) (B at_220) (fun _ _ => ⟨rfl, rfl, (by decide : 2 + 0 ≤ _), (by decide : 129 + 0 ≤ _)⟩)
  dsimp only [Pt.U, Pt.locs, Pt.cells, Pt.slots] at X43 l43 y43 z43 st43 hQ43
  rw [l43, y43, z43] at X43
  obtain ⟨hv43, Nq43, eq43⟩ := hQ43
  obtain rfl := own_lit hv43 (y := (60 : Int32)) (by decide)
  have N44 := Fr.app N39 Nq43
  have f45 := ((((((Vm11.keep kp13 (ninS (Ne.symm neb3_6) nin0)).keep kp18 (ninS (Ne.symm neb3_6) nin0)).keep kp23 (ninS (Ne.symm neb3_6) nin0)).keep kp28 (ninS (Ne.symm neb3_6) nin0)).keep kp33 (ninS (Ne.symm neb3_6) nin0)).keep kp38 (ninS (Ne.symm neb3_6) nin0))
  obtain ⟨cl46, Ar46, q46, S46, M46, H46, G46⟩ := id f45
  have hin46 : ¬ ((0 : Int32) < 0 ∨ cl46.slots.size ≤ ((0 : Int32)).toNatClampNeg) := inb_of S46 ⟨by decide, by decide⟩
  obtain ⟨T47, h47, X47, e47, W47, st47⟩ := stC X43 hx hZ eq43 Ar46 (j := (0 : Int32)) hin46 (g := (FL m x0 x1 x2 x3 x4 x5 230 (VI 7) (VR b3) (VR b6) (VI 64) (VI 60) .unset [(.int 34), (.int 0), (.ref b6)])) rfl rfl (B at_230)
  have V47 : Arv Z h47 b6 k6 .char (65 : Int32) (List.map Value.int (List.set (List.replicate 65 (0 : Int32)) 0 (34 : Int32))) (.int (0 : Int32)) := (by have q := (Arv.set Ar46 q46 S46 M46 H46 G46 (fits_nar_char _) W47 0 rfl (by rw [List.length_map, ((by simp only [List.length_replicate]) : List.length (List.replicate 65 (0 : Int32)) = 65)]; decide)); rw [show nar .char (34 : Int32) = 34 by decide] at q; rw [List.map_set]; exact q)
  have f48 := (Safe.keep kp38 (sfS f40 sf0) CH36.1 (Safe.keep kp33 (sfS f35 sf0) CH31.1 (Safe.keep kp28 (sfS f30 sf0) CH26.1 (Safe.keep kp23 (sfS f25 sf0) CH21.1 (Safe.keep kp18 (sfS f20 sf0) CH16.1 (Safe.keep kp13 (sfS f15 sf0) CH7.1 Y6))))))
  have CH49 := CH41.trans (CHr.wr W47 f48 CH41.1)
  have hk49 := Nat.le_trans hk41 (Keep.of_wr W47).1
  have N50 := Fr.snoc X47 N44 gn6
  have Ol50 := Ol42.wr W47 gn6
  have f51 := (na38.other W47 neb3_6)
  obtain ⟨_, _, ⟨T52, L52, k52, n52⟩, -, X52, ⟨Lc52, hQ52, l52, y52, z52⟩, st52⟩ := Jvm.LawKit.callS X47 hx (y := my35) hown (mvT hZ (ow9 hw)) (mvT hZ (ow10 hw)) (mvT hZ (ow3 hw)) (mvT hZ (ow11 hw)) (by decide) (backOf (W := 0) (rmci l Z a0 hw [] b3 b6 (0 : Int32) (60 : Int32) k3 k6 cs38 (List.set (List.replicate 65 (0 : Int32)) 0 (34 : Int32)) 0 64 65 60 h47 n0 Ol50 f51 V47 (by rw [List.length_set]; exact (by simp only [List.length_replicate])) bc38 rfl rfl (by decide) (by decide) (by decide) (by decide) (by decide) gn6) hZ (ow11 hw) (ow3 hw) (by decide) (by decide)) (g := (FL m x0 x1 x2 x3 x4 x5 238 (VI 7) (VR b3) (VR b6) (VI 64) (VI 60) .unset [(.int 60), (.int 0), (.ref b6), (.ref b3)])) rfl (by rw [hml]; rfl) (argsL := [(.ref b3), (.ref b6), (.int 0), (.int 60)]) (rest := []) (lenOf pd27 rfl) rfl (w0 rfl rfl) (B at_238) (fun _ _ => ⟨rfl, e47, (by decide : 2 + 0 ≤ _), (by decide : 129 + 0 ≤ _)⟩)
  dsimp only [Pt.U, Pt.locs, Pt.cells, Pt.slots] at X52 l52 y52 z52 st52 hQ52
  rw [l52, y52, z52] at X52
  obtain ⟨rfl, Nq52, kp52, na52⟩ := hQ52
  have N53 := Fr.app N50 Nq52
  have f54 := (Safe.wr W47 f48 CH41.1 f48)
  have CH55 := CH49.trans (CHr.keep kp52 (sfS f54 sf0) CH49.1)
  have hk55 := Nat.le_trans hk49 kp52.1
  have Ol56 := Ol50.keep kp52 (allS gn6 all0)
  obtain ⟨cs52, hcs52⟩ : ∃ z, z = List.set (List.set (List.replicate 65 (0 : Int32)) 0 (34 : Int32)) (0 + 1) (List.getD cs38 0 0) := ⟨_, rfl⟩
  rw [← hcs52] at na52
  have lc52 : List.length cs52 = 65 := by rw [hcs52, List.length_set]; exact (by rw [List.length_set]; exact (by simp only [List.length_replicate]))
  have bc52 : Byt cs52 := by rw [hcs52]; exact own_setb (own_setb (own_rep0 65) 0 (by decide)) (0 + 1) (own_gdb bc38 0)
  have f57 := (f51.keep kp52 (ninS neb3_6 nin0))
  obtain ⟨_, _, ⟨T58, L58, k58, n58⟩, -, X58, ⟨Lc58, hQ58, l58, y58, z58⟩, st58⟩ := Jvm.LawKit.callS X52 hx (y := my35) hown (mvT hZ (ow9 hw)) (mvT hZ (ow10 hw)) (mvT hZ (ow3 hw)) (mvT hZ (ow11 hw)) (by decide) (backOf (W := 0) (rmci l Z a0 hw [] b3 b6 (1 : Int32) (60 : Int32) k3 k6 cs38 cs52 1 64 65 60 T52.heap n0 Ol56 f57 na52 lc52 bc38 rfl rfl (by decide) (by decide) (by decide) (by decide) (by decide) gn6) hZ (ow11 hw) (ow3 hw) (by decide) (by decide)) (g := (FL m x0 x1 x2 x3 x4 x5 248 (VI 7) (VR b3) (VR b6) (VI 64) (VI 60) .unset [(.int 60), (.int 1), (.ref b6), (.ref b3)])) rfl (by rw [hml]; rfl) (argsL := [(.ref b3), (.ref b6), (.int 1), (.int 60)]) (rest := []) (lenOf pd27 rfl) rfl (w0 rfl rfl) (B at_248) (fun _ _ => ⟨rfl, rfl, (by decide : 2 + 0 ≤ _), (by decide : 129 + 0 ≤ _)⟩)
  dsimp only [Pt.U, Pt.locs, Pt.cells, Pt.slots] at X58 l58 y58 z58 st58 hQ58
  rw [l58, y58, z58] at X58
  obtain ⟨rfl, Nq58, kp58, na58⟩ := hQ58
  have N59 := Fr.app N53 Nq58
  have f60 := (Safe.keep kp52 (sfS f54 sf0) CH49.1 f54)
  have CH61 := CH55.trans (CHr.keep kp58 (sfS f60 sf0) CH55.1)
  have hk61 := Nat.le_trans hk55 kp58.1
  have Ol62 := Ol56.keep kp58 (allS gn6 all0)
  obtain ⟨cs58, hcs58⟩ : ∃ z, z = List.set cs52 (1 + 1) (List.getD cs38 1 0) := ⟨_, rfl⟩
  rw [← hcs58] at na58
  have lc58 : List.length cs58 = 65 := by rw [hcs58, List.length_set]; exact lc52
  have bc58 : Byt cs58 := by rw [hcs58]; exact own_setb bc52 (1 + 1) (own_gdb bc38 1)
  have f63 := (f57.keep kp58 (ninS neb3_6 nin0))
  obtain ⟨_, _, ⟨T64, L64, k64, n64⟩, -, X64, ⟨Lc64, hQ64, l64, y64, z64⟩, st64⟩ := Jvm.LawKit.callS X58 hx (y := my35) hown (mvT hZ (ow9 hw)) (mvT hZ (ow10 hw)) (mvT hZ (ow3 hw)) (mvT hZ (ow11 hw)) (by decide) (backOf (W := 0) (rmci l Z a0 hw [] b3 b6 (58 : Int32) (60 : Int32) k3 k6 cs38 cs58 58 64 65 60 T58.heap n0 Ol62 f63 na58 lc58 bc38 rfl rfl (by decide) (by decide) (by decide) (by decide) (by decide) gn6) hZ (ow11 hw) (ow3 hw) (by decide) (by decide)) (g := (FL m x0 x1 x2 x3 x4 x5 259 (VI 7) (VR b3) (VR b6) (VI 64) (VI 60) .unset [(.int 60), (.int 58), (.ref b6), (.ref b3)])) rfl (by rw [hml]; rfl) (argsL := [(.ref b3), (.ref b6), (.int 58), (.int 60)]) (rest := []) (lenOf pd27 rfl) rfl (w0 rfl rfl) (B at_259) (fun _ _ => ⟨rfl, rfl, (by decide : 2 + 0 ≤ _), (by decide : 129 + 0 ≤ _)⟩)
  dsimp only [Pt.U, Pt.locs, Pt.cells, Pt.slots] at X64 l64 y64 z64 st64 hQ64
  rw [l64, y64, z64] at X64
  obtain ⟨rfl, Nq64, kp64, na64⟩ := hQ64
  have N65 := Fr.app N59 Nq64
  have f66 := (Safe.keep kp58 (sfS f60 sf0) CH55.1 f60)
  have CH67 := CH61.trans (CHr.keep kp64 (sfS f66 sf0) CH61.1)
  have hk67 := Nat.le_trans hk61 kp64.1
  have Ol68 := Ol62.keep kp64 (allS gn6 all0)
  obtain ⟨cs64, hcs64⟩ : ∃ z, z = List.set cs58 (58 + 1) (List.getD cs38 58 0) := ⟨_, rfl⟩
  rw [← hcs64] at na64
  have lc64 : List.length cs64 = 65 := by rw [hcs64, List.length_set]; exact lc58
  have bc64 : Byt cs64 := by rw [hcs64]; exact own_setb bc58 (58 + 1) (own_gdb bc38 58)
  have f69 := (f63.keep kp64 (ninS neb3_6 nin0))
  obtain ⟨_, _, ⟨T70, L70, k70, n70⟩, -, X70, ⟨Lc70, hQ70, l70, y70, z70⟩, st70⟩ := Jvm.LawKit.callS X64 hx (y := my35) hown (mvT hZ (ow9 hw)) (mvT hZ (ow10 hw)) (mvT hZ (ow3 hw)) (mvT hZ (ow11 hw)) (by decide) (backOf (W := 0) (rmci l Z a0 hw [] b3 b6 (59 : Int32) (60 : Int32) k3 k6 cs38 cs64 59 64 65 60 T64.heap n0 Ol68 f69 na64 lc64 bc38 rfl rfl (by decide) (by decide) (by decide) (by decide) (by decide) gn6) hZ (ow11 hw) (ow3 hw) (by decide) (by decide)) (g := (FL m x0 x1 x2 x3 x4 x5 270 (VI 7) (VR b3) (VR b6) (VI 64) (VI 60) .unset [(.int 60), (.int 59), (.ref b6), (.ref b3)])) rfl (by rw [hml]; rfl) (argsL := [(.ref b3), (.ref b6), (.int 59), (.int 60)]) (rest := []) (lenOf pd27 rfl) rfl (w0 rfl rfl) (B at_270) (fun _ _ => ⟨rfl, rfl, (by decide : 2 + 0 ≤ _), (by decide : 129 + 0 ≤ _)⟩)
  dsimp only [Pt.U, Pt.locs, Pt.cells, Pt.slots] at X70 l70 y70 z70 st70 hQ70
  rw [l70, y70, z70] at X70
  obtain ⟨rfl, Nq70, kp70, na70⟩ := hQ70
  have N71 := Fr.app N65 Nq70
  have f72 := (Safe.keep kp64 (sfS f66 sf0) CH61.1 f66)
  have CH73 := CH67.trans (CHr.keep kp70 (sfS f72 sf0) CH67.1)
  have hk73 := Nat.le_trans hk67 kp70.1
  have Ol74 := Ol68.keep kp70 (allS gn6 all0)
  obtain ⟨cs70, hcs70⟩ : ∃ z, z = List.set cs64 (59 + 1) (List.getD cs38 59 0) := ⟨_, rfl⟩
  rw [← hcs70] at na70
  have lc70 : List.length cs70 = 65 := by rw [hcs70, List.length_set]; exact lc64
  have bc70 : Byt cs70 := by rw [hcs70]; exact own_setb bc64 (59 + 1) (own_gdb bc38 59)
  obtain ⟨_, _, ⟨T75, L75, k75, n75⟩, -, X75, ⟨Lc75, hQ75, l75, y75, z75⟩, st75⟩ := Jvm.LawKit.callS X70 hx (y := my35) hown (mvT hZ (ow9 hw)) (mvT hZ (ow10 hw)) (mvT hZ (ow3 hw)) (mvT hZ (ow11 hw)) (by decide) (backOf (W := 0) (rmco l Z a0 hw [] b3 b6 (60 : Int32) (60 : Int32)  T70.heap n0 Ol74 (by decide)) hZ (ow11 hw) (ow3 hw) (by decide) (by decide)) (g := (FL m x0 x1 x2 x3 x4 x5 281 (VI 7) (VR b3) (VR b6) (VI 64) (VI 60) .unset [(.int 60), (.int 60), (.ref b6), (.ref b3)])) rfl (by rw [hml]; rfl) (argsL := [(.ref b3), (.ref b6), (.int 60), (.int 60)]) (rest := []) (lenOf pd27 rfl) rfl (w0 rfl rfl) (B at_281) (fun _ _ => ⟨rfl, rfl, (by decide : 2 + 0 ≤ _), (by decide : 129 + 0 ≤ _)⟩)
  dsimp only [Pt.U, Pt.locs, Pt.cells, Pt.slots] at X75 l75 y75 z75 st75 hQ75
  rw [l75, y75, z75] at X75
  obtain ⟨rfl, Nq75, eq75⟩ := hQ75
  have N76 := Fr.app N71 Nq75
  obtain ⟨_, _, ⟨T77, L77, k77, n77⟩, -, X77, ⟨Lc77, hQ77, l77, y77, z77⟩, st77⟩ := Jvm.LawKit.callS X75 hx (y := my35) hown (mvT hZ (ow9 hw)) (mvT hZ (ow10 hw)) (mvT hZ (ow3 hw)) (mvT hZ (ow11 hw)) (by decide) (backOf (W := 0) (rmco l Z a0 hw [] b3 b6 (63 : Int32) (60 : Int32)  T70.heap n0 Ol74 (by decide)) hZ (ow11 hw) (ow3 hw) (by decide) (by decide)) (g := (FL m x0 x1 x2 x3 x4 x5 294 (VI 7) (VR b3) (VR b6) (VI 64) (VI 60) .unset [(.int 60), (.int 63), (.ref b6), (.ref b3)])) rfl (by rw [hml]; rfl) (argsL := [(.ref b3), (.ref b6), (.int 63), (.int 60)]) (rest := []) (lenOf pd27 rfl) rfl (w0 rfl rfl) (B at_294) (fun _ _ => ⟨rfl, eq75, (by decide : 2 + 0 ≤ _), (by decide : 129 + 0 ≤ _)⟩)
  dsimp only [Pt.U, Pt.locs, Pt.cells, Pt.slots] at X77 l77 y77 z77 st77 hQ77
  rw [l77, y77, z77] at X77
  obtain ⟨rfl, Nq77, eq77⟩ := hQ77
  have N78 := Fr.app N76 Nq77
  obtain ⟨cl79, Ar79, q79, S79, M79, H79, G79⟩ := id na70
  have hin79 : ¬ ((61 : Int32) < 0 ∨ cl79.slots.size ≤ ((61 : Int32)).toNatClampNeg) := inb_of S79 ⟨by decide, by decide⟩
  obtain ⟨T80, h80, X80, e80, W80, st80⟩ := stC X77 hx hZ eq77 Ar79 (j := (61 : Int32)) hin79 (g := (FL m x0 x1 x2 x3 x4 x5 310 (VI 7) (VR b3) (VR b6) (VI 64) (VI 60) .unset [(.int 46), (.int 61), (.ref b6)])) rfl rfl (B at_310)
  have V80 : Arv Z h80 b6 k6 .char (65 : Int32) (List.map Value.int (List.set cs70 61 (46 : Int32))) (.int (0 : Int32)) := (by have q := (Arv.set Ar79 q79 S79 M79 H79 G79 (fits_nar_char _) W80 61 rfl (by rw [List.length_map, (lc70 : List.length cs70 = 65)]; decide)); rw [show nar .char (46 : Int32) = 46 by decide] at q; rw [List.map_set]; exact q)
  have f81 := (Safe.keep kp70 (sfS f72 sf0) CH67.1 f72)
  have CH82 := CH73.trans (CHr.wr W80 f81 CH73.1)
  have hk82 := Nat.le_trans hk73 (Keep.of_wr W80).1
  have N83 := Fr.snoc X80 N78 gn6
  have Ol83 := Ol74.wr W80 gn6
  obtain ⟨cl84, Ar84, q84, S84, M84, H84, G84⟩ := id V80
  have hin84 : ¬ ((62 : Int32) < 0 ∨ cl84.slots.size ≤ ((62 : Int32)).toNatClampNeg) := inb_of S84 ⟨by decide, by decide⟩
  obtain ⟨T85, h85, X85, e85, W85, st85⟩ := stC X80 hx hZ e80 Ar84 (j := (62 : Int32)) hin84 (g := (FL m x0 x1 x2 x3 x4 x5 317 (VI 7) (VR b3) (VR b6) (VI 64) (VI 60) .unset [(.int 46), (.int 62), (.ref b6)])) rfl rfl (B at_317)
  have V85 : Arv Z h85 b6 k6 .char (65 : Int32) (List.map Value.int (List.set (List.set cs70 61 (46 : Int32)) 62 (46 : Int32))) (.int (0 : Int32)) := (by have q := (Arv.set Ar84 q84 S84 M84 H84 G84 (fits_nar_char _) W85 62 rfl (by rw [List.length_map, ((by rw [List.length_set]; exact lc70) : List.length (List.set cs70 61 (46 : Int32)) = 65)]; decide)); rw [show nar .char (46 : Int32) = 46 by decide] at q; rw [List.map_set]; exact q)
  have f86 := (Safe.wr W80 f81 CH73.1 f81)
  have CH87 := CH82.trans (CHr.wr W85 f86 CH82.1)
  have hk87 := Nat.le_trans hk82 (Keep.of_wr W85).1
  have N88 := Fr.snoc X85 N83 gn6
  have Ol88 := Ol83.wr W85 gn6
  obtain ⟨cl89, Ar89, q89, S89, M89, H89, G89⟩ := id V85
  have hin89 : ¬ ((63 : Int32) < 0 ∨ cl89.slots.size ≤ ((63 : Int32)).toNatClampNeg) := inb_of S89 ⟨by decide, by decide⟩
  obtain ⟨T90, h90, X90, e90, W90, st90⟩ := stC X85 hx hZ e85 Ar89 (j := (63 : Int32)) hin89 (g := (FL m x0 x1 x2 x3 x4 x5 324 (VI 7) (VR b3) (VR b6) (VI 64) (VI 60) .unset [(.int 46), (.int 63), (.ref b6)])) rfl rfl (B at_324)
  have V90 : Arv Z h90 b6 k6 .char (65 : Int32) (List.map Value.int (List.set (List.set (List.set cs70 61 (46 : Int32)) 62 (46 : Int32)) 63 (46 : Int32))) (.int (0 : Int32)) := (by have q := (Arv.set Ar89 q89 S89 M89 H89 G89 (fits_nar_char _) W90 63 rfl (by rw [List.length_map, ((by rw [List.length_set]; exact (by rw [List.length_set]; exact lc70)) : List.length (List.set (List.set cs70 61 (46 : Int32)) 62 (46 : Int32)) = 65)]; decide)); rw [show nar .char (46 : Int32) = 46 by decide] at q; rw [List.map_set]; exact q)
  have f91 := (Safe.wr W85 f86 CH82.1 f86)
  have CH92 := CH87.trans (CHr.wr W90 f91 CH87.1)
  have hk92 := Nat.le_trans hk87 (Keep.of_wr W90).1
  have N93 := Fr.snoc X90 N88 gn6
  have Ol93 := Ol88.wr W90 gn6
  obtain ⟨cl94, Ar94, q94, S94, M94, H94, G94⟩ := id V90
  have hin94 : ¬ ((64 : Int32) < 0 ∨ cl94.slots.size ≤ ((64 : Int32)).toNatClampNeg) := inb_of S94 ⟨by decide, by decide⟩
  obtain ⟨T95, h95, X95, e95, W95, st95⟩ := stC X90 hx hZ e90 Ar94 (j := (64 : Int32)) hin94 (g := (FL m x0 x1 x2 x3 x4 x5 331 (VI 7) (VR b3) (VR b6) (VI 64) (VI 60) .unset [(.int 34), (.int 64), (.ref b6)])) rfl rfl (B at_331)
  have V95 : Arv Z h95 b6 k6 .char (65 : Int32) (List.map Value.int (List.set (List.set (List.set (List.set cs70 61 (46 : Int32)) 62 (46 : Int32)) 63 (46 : Int32)) 64 (34 : Int32))) (.int (0 : Int32)) := (by have q := (Arv.set Ar94 q94 S94 M94 H94 G94 (fits_nar_char _) W95 64 rfl (by rw [List.length_map, ((by rw [List.length_set]; exact (by rw [List.length_set]; exact (by rw [List.length_set]; exact lc70))) : List.length (List.set (List.set (List.set cs70 61 (46 : Int32)) 62 (46 : Int32)) 63 (46 : Int32)) = 65)]; decide)); rw [show nar .char (34 : Int32) = 34 by decide] at q; rw [List.map_set]; exact q)
  have f96 := (Safe.wr W90 f91 CH87.1 f91)
  have CH97 := CH92.trans (CHr.wr W95 f96 CH92.1)
  have hk97 := Nat.le_trans hk92 (Keep.of_wr W95).1
  have N98 := Fr.snoc X95 N93 gn6
  have Ol98 := Ol93.wr W95 gn6
  have f99 := (((((f69.keep kp70 (ninS neb3_6 nin0)).other W80 neb3_6).other W85 neb3_6).other W90 neb3_6).other W95 neb3_6)
  obtain ⟨T100, h100, X100, e100, E100, A100, D100, U100, st100⟩ := newO X95 hx hZ hown (ow12 hw) (ow13 hw) (ow14 hw) e95 (g := (FL m x0 x1 x2 x3 x4 x5 344 (VI 7) (VR b3) (VR b6) (VI 64) (VI 60) .unset [])) rfl (B at_344) (by decide) (by decide)
  obtain ⟨b100, g100⟩ : ∃ z, z = h95.size := ⟨_, rfl⟩
  rw [← g100] at A100 D100 U100 st100
  have gn100 : n0 ≤ b100 := Nat.le_trans (own_sz Ol98) (Nat.le_of_eq g100.symm)
  have neb3_100 : b3 ≠ b100 := Nat.ne_of_lt (Nat.lt_of_lt_of_le f99.lt (Nat.le_of_eq g100.symm))
  have neb6_100 : b6 ≠ b100 := Nat.ne_of_lt (Nat.lt_of_lt_of_le V95.lt (Nat.le_of_eq g100.symm))
  have Y100 := Safe.ext E100 CH97.1 (Safe.new (x := b100) (Nat.le_of_eq g100.symm))
  have CH101 := CH97.trans (CHr.ext E100 CH97.1)
  have hk101 := Nat.le_trans hk97 E100.1
  have Ol102 := Ol98.ext E100
  have Fcoder_100 : Fld Z h100 b100 "java/lang/String" "coder" "B" (.int (0 : Int32)) := D100 (Or.inr (ow38 hw)) (ty := .byte) (by decide)
  have Fvalue_100 : Fld Z h100 b100 "java/lang/String" "value" "[B" .null := D100 (Or.inr (ow40 hw)) (ty := (.array .byte)) (by decide)
  have f103 := (f99.ext E100)
  obtain ⟨_, _, ⟨T104, L104, k104, n104⟩, -, X104, ⟨Lc104, hQ104, l104, y104, z104⟩, st104⟩ := X100.specialBack hx (y := my1) rfl hown (mvT hZ (ow15 hw)) (mvT hZ (ow16 hw)) (mvT hZ (ow17 hw)) (by decide) (StrChars.Road.backV (W := 1) hZ (own_ws hw) (kI := 4) (ow13 hw) (cs := cs38) (bs := List.map (fun c => c.toInt8.toInt32) cs38) (n := 64) gn100 (own_sz Ol102) A100 Fvalue_100 Fcoder_100 f103 (O2.ext Ol102.2) P5 lc38 rfl (by decide) (by decide) bc38 rfl (by decide) (by decide)) (g := (FL m x0 x1 x2 x3 x4 x5 350 (VI 7) (VR b3) (VR b6) (VI 64) (VI 60) .unset [(.ref b3), (.ref b100), (.ref b100)])) rfl (by rw [hml]; rfl) (Steps.refl _) (a := b100) (argsL := [(.ref b3)]) (rest := [(.ref b100)]) (lenOf pd28 rfl) rfl (w0 rfl rfl) (B at_350) (fun _ _ => ⟨rfl, e100, (by decide : 3 + 1 ≤ _), (by decide : 133 + 64 ≤ _)⟩)
  dsimp only [Pt.U, Pt.locs, Pt.cells, Pt.slots] at X104 l104 y104 z104 st104 hQ104
  rw [l104, y104, z104] at X104
  obtain ⟨rfl, Nq104, kp104, sE104, sC104, t104, k104_, -, -, -, sV104, sA104⟩ := hQ104
  have ln104 : List.length cs38 = 64 := lc38
  have Sp104 : StrP Z _ b100 cs38 := ⟨sE104, sC104, bc38, (by rw [ln104]; decide), t104, k104_, sV104, (by rw [ln104]; exact sA104)⟩
  have N105 := Fr.app N98 Nq104
  have CH106 := CH101.trans (CHr.keep kp104 (sfS Y100 sf0) CH101.1)
  have hk106 := Nat.le_trans hk101 kp104.1
  have Ol107 := Ol102.keep kp104 (allS gn100 all0)
  obtain ⟨sEI, sCI, spI, slI, tI, skI, sVI, sAI⟩ := id Sp104
  obtain ⟨_, _, ⟨T108, L108, k108, n108⟩, -, Xr108, hSr108, hgr108, ⟨Lc108, hQ108, l108, y108, z108, CR108⟩, st108⟩ := callSS X104 hx (y := my33) hown (mvT hZ (ow41 hw)) (mvT hZ (ow42 hw)) (mvT hZ (ow43 hw)) (mvT hZ (ow44 hw)) (by decide) (backOfSH (W := 0) (rmql l Z a0 hw [] b100 cs38 G1 fm T104.heap n0 Ol107 O2 P5 O4 rf ⟨sEI, sCI, spI, slI, tI, skI, sVI, sAI⟩ (by rw [lc38]; decide) (by rw [lc38]; decide)) hZ (ow44 hw) (ow43 hw) (by decide) (by decide) (own_EW hw) CH106.1) (g := (FL m x0 x1 x2 x3 x4 x5 353 (VI 7) (VR b3) (VR b6) (VI 64) (VI 60) .unset [(.ref b100)])) rfl (by rw [hml]; rfl) (argsL := [(.ref b100)]) (rest := []) (lenOf pd29 rfl) rfl (w0 rfl rfl) (B at_353) (fun _ _ => ⟨rfl, rfl, (by decide : 4 + 20 ≤ _), (by decide : 197 + 1479 ≤ _)⟩)
  dsimp only [Pt.U, Pt.locs, Pt.cells, Pt.slots] at Xr108 hSr108 hgr108 l108 y108 z108 CR108 st108 hQ108
  rw [l108, y108, z108] at Xr108
  obtain ⟨X108, hS108, hZ108, hown108⟩ := rebS hS0 hk106 Xr108 hSr108 hgr108 hZ hown
  have hk108 : T108.heap.size ≤ T108.heap.size := Nat.le_refl _
  obtain ⟨qb108, rfl, Nq108, kp108, Sq108⟩ := hQ108
  have N109 := Fr.app N105 Nq108
  have f110 := (f103.keep kp104 (ninS neb3_100 nin0))
  have f111 := ((V95.ext E100).keep kp104 (ninS neb6_100 nin0))
  have CH112 := CH106.trans CR108
  have Ol113 := Ol107.keep kp108 all0
  obtain ⟨sEQ, sCQ, spQ, slQ, tQ, skQ, sVQ, sAQ⟩ := id Sq108
  have f114 := (f110.keep kp108 nin0)
  have f115 := (f111.keep kp108 nin0)
  have f116 := (sEI.keep kp108)
  have f117 := (sAI.keep kp108 nin0)
  obtain ⟨T118, h118, X118, e118, E118, A118, D118, U118, st118⟩ := newO X108 hx hZ108 hown108 (ow12 hw) (ow13 hw) (ow14 hw) rfl (g := (FL m x0 x1 x2 x3 x4 x5 360 (VI 7) (VR b3) (VR b6) (VI 64) (VI 60) (VR qb108) [(.ref qb108)])) rfl (B at_360) (by decide) (by decide)
  obtain ⟨b118, g118⟩ : ∃ z, z = T108.heap.size := ⟨_, rfl⟩
  rw [← g118] at A118 D118 U118 st118
  have gn118 : n0 ≤ b118 := Nat.le_trans (own_sz Ol113) (Nat.le_of_eq g118.symm)
  have neb3_118 : b3 ≠ b118 := Nat.ne_of_lt (Nat.lt_of_lt_of_le f114.lt (Nat.le_of_eq g118.symm))
  have neb6_118 : b6 ≠ b118 := Nat.ne_of_lt (Nat.lt_of_lt_of_le f115.lt (Nat.le_of_eq g118.symm))
  have neb100_118 : b100 ≠ b118 := Nat.ne_of_lt (Nat.lt_of_lt_of_le f116.lt (Nat.le_of_eq g118.symm))
  have netI_118 : tI ≠ b118 := Nat.ne_of_lt (Nat.lt_of_lt_of_le f117.lt (Nat.le_of_eq g118.symm))
  have neqb108_118 : qb108 ≠ b118 := Nat.ne_of_lt (Nat.lt_of_lt_of_le sEQ.lt (Nat.le_of_eq g118.symm))
  have netQ_118 : tQ ≠ b118 := Nat.ne_of_lt (Nat.lt_of_lt_of_le sAQ.lt (Nat.le_of_eq g118.symm))
  have Y118 := Safe.ext E118 CH112.1 (Safe.new (x := b118) (Nat.le_of_eq g118.symm))
  have CH119 := CH112.trans (CHr.ext E118 CH112.1)
  have hk119 := Nat.le_trans hk108 E118.1
  have Ol120 := Ol113.ext E118
  have Fcoder_118 : Fld Z h118 b118 "java/lang/String" "coder" "B" (.int (0 : Int32)) := D118 (Or.inr (ow38 hw)) (ty := .byte) (by decide)
  have Fvalue_118 : Fld Z h118 b118 "java/lang/String" "value" "[B" .null := D118 (Or.inr (ow40 hw)) (ty := (.array .byte)) (by decide)
  have f121 := (f115.ext E118)
  obtain ⟨_, _, ⟨T122, L122, k122, n122⟩, -, X122, ⟨Lc122, hQ122, l122, y122, z122⟩, st122⟩ := X118.specialBack hx (y := my1) rfl hown108 (mvT hZ108 (ow15 hw)) (mvT hZ108 (ow16 hw)) (mvT hZ108 (ow17 hw)) (by decide) (StrChars.Road.backV (W := 2) hZ108 (own_ws hw) (kI := 4) (ow13 hw) (cs := (List.set (List.set (List.set (List.set cs70 61 (46 : Int32)) 62 (46 : Int32)) 63 (46 : Int32)) 64 (34 : Int32))) (bs := List.map (fun c => c.toInt8.toInt32) (List.set (List.set (List.set (List.set cs70 61 (46 : Int32)) 62 (46 : Int32)) 63 (46 : Int32)) 64 (34 : Int32))) (n := 65) gn118 (own_sz Ol120) A118 Fvalue_118 Fcoder_118 f121 (O2.ext Ol120.2) P5 (by rw [List.length_set]; exact (by rw [List.length_set]; exact (by rw [List.length_set]; exact (by rw [List.length_set]; exact lc70)))) rfl (by decide) (by decide) (own_setb (own_setb (own_setb (own_setb bc70 61 (by decide)) 62 (by decide)) 63 (by decide)) 64 (by decide)) rfl (by decide) (by decide)) (g := (FL m x0 x1 x2 x3 x4 x5 366 (VI 7) (VR b3) (VR b6) (VI 64) (VI 60) (VR qb108) [(.ref b6), (.ref b118), (.ref b118), (.ref qb108)])) rfl (by rw [hml]; rfl) (Steps.refl _) (a := b118) (argsL := [(.ref b6)]) (rest := [(.ref b118), (.ref qb108)]) (lenOf pd28 rfl) rfl (w0 rfl rfl) (B at_366) (fun _ _ => ⟨rfl, e118, (by decide : 25 + 1 ≤ _), (by decide : 1680 + 65 ≤ _)⟩)
  dsimp only [Pt.U, Pt.locs, Pt.cells, Pt.slots] at X122 l122 y122 z122 st122 hQ122
  rw [l122, y122, z122] at X122
  obtain ⟨rfl, Nq122, kp122, sE122, sC122, t122, k122_, -, -, -, sV122, sA122⟩ := hQ122
  have ln122 : List.length (List.set (List.set (List.set (List.set cs70 61 (46 : Int32)) 62 (46 : Int32)) 63 (46 : Int32)) 64 (34 : Int32)) = 65 := (by rw [List.length_set]; exact (by rw [List.length_set]; exact (by rw [List.length_set]; exact (by rw [List.length_set]; exact lc70))))
  have Sp122 : StrP Z _ b118 (List.set (List.set (List.set (List.set cs70 61 (46 : Int32)) 62 (46 : Int32)) 63 (46 : Int32)) 64 (34 : Int32)) := ⟨sE122, sC122, (own_setb (own_setb (own_setb (own_setb bc70 61 (by decide)) 62 (by decide)) 63 (by decide)) 64 (by decide)), (by rw [ln122]; decide), t122, k122_, sV122, (by rw [ln122]; exact sA122)⟩
  have N123 := Fr.app N109 Nq122
  have CH124 := CH119.trans (CHr.keep kp122 (sfS Y118 sf0) CH119.1)
  have hk124 := Nat.le_trans hk119 kp122.1
  have Ol125 := Ol120.keep kp122 (allS gn118 all0)
  obtain ⟨sEO, sCO, spO, slO, tO, skO, sVO, sAO⟩ := id Sp122
  have f126 := ((sEQ.ext E118).keep kp122)
  have f127 := ((sVQ.ext E118).keep kp122 (ninS neqb108_118 nin0))
  have f128 := ((sCQ.ext E118).keep kp122 (ninS neqb108_118 nin0))
  have f129 := ((sAQ.ext E118).keep kp122 (ninS netQ_118 nin0))
  obtain ⟨cq130, kq130, q130a, q130b, q130c⟩ := isOf hZ108 rfl f126
  obtain ⟨_, _, ⟨T130, L130, k130, n130⟩, -, X130, ⟨Lc130, hQ130, l130, y130, z130⟩, st130⟩ := X122.virtualBack hx (y := my36) (z := my36) hown108 (mvT hZ108 (ow156 hw)) (mvT hZ108 (ow157 hw)) (notFace_of_selects (args := #[]) (mvT hZ108 (ow159 hw))) (mvT hZ108 (ow159 hw)) (mvT hZ108 (ow158 hw)) (by decide) (StrChars.Road.eqW (W := 0) hZ108 (own_weq hw) (kI := 4) (ow13 hw) f126 f127 f128 f129 (StrChars.Road.codOf rfl (fun c hc => (spQ c hc).2)) (own_up _ spQ) slQ sEO sVO sCO sAO (StrChars.Road.codOf rfl (fun c hc => (spO c hc).2)) (own_up _ spO) slO (O2.ext Ol125.2) P5 (by decide) (by decide)) q130a q130c (g := (FL m x0 x1 x2 x3 x4 x5 369 (VI 7) (VR b3) (VR b6) (VI 64) (VI 60) (VR qb108) [(.ref b118), (.ref qb108)])) rfl (by rw [hml]; rfl) (Steps.refl _) (argsL := [(.ref b118)]) (rest := []) (lenOf pd30 rfl) rfl (w0 rfl rfl) (B at_369) (fun _ _ => ⟨rfl, rfl, (by decide : 26 + 0 ≤ _), (by decide : 1745 + 0 ≤ _)⟩)
  dsimp only [Pt.U, Pt.locs, Pt.cells, Pt.slots] at X130 l130 y130 z130 st130 hQ130
  rw [l130, y130, z130] at X130
  obtain ⟨hor130, hL130, eq130⟩ := hQ130
  obtain rfl := own_eqv hor130
  have Nq130 := own_frn hL130 n0
  have N131 := Fr.app N123 Nq130
  have hAB : (ql cs38) = (List.set (List.set (List.set (List.set cs70 61 (46 : Int32)) 62 (46 : Int32)) 63 (46 : Int32)) 64 (34 : Int32)) := by rw [hcs70, hcs64, hcs58, hcs52, hcs38, hcs33, hcs28, hcs23, hcs18, hcs13]; rfl
  have pre132 : ∀ tgt, Steps p.tables e below (T130.setTop (FL m x0 x1 x2 x3 x4 x5 372 (VI 7) (VR b3) (VR b6) (VI 64) (VI 60) (VR qb108) [(.int (if (ql cs38) = (List.set (List.set (List.set (List.set cs70 61 (46 : Int32)) 62 (46 : Int32)) 63 (46 : Int32)) 64 (34 : Int32)) then (1 : Int32) else (0 : Int32)))])) tgt → Steps p.tables e below (s₁.setTop (entryFrame m #[(.int x0), (.int x1), (.int x2), (.int x3), (.int x4), (.int x5)] maxLocals)) tgt := by
    intro tgt kgo
    refine pre2 _ ?_
    refine XS.iload X0.here hx rfl (B at_7) rfl ?_
    refine XS.ifYes X0.here hx rfl (pc0 := 9) (pc' := 25) rfl (B at_9) rfl ((if0 _ _).trans (feq (by decide : ¬ ((7 : Int32) = (0 : Int32)))).2) (by decide) (by decide) ?_
    show GO p e below s₁ (FL m x0 x1 x2 x3 x4 x5 25 (VI 7) .unset .unset .unset .unset .unset []) _
    refine XS.iload X0.here hx rfl (B at_25) rfl ?_
    refine XS.iconst X0.here hx rfl (B at_27) ?_
    refine XS.icmpYes X0.here hx rfl (pc0 := 28) (pc' := 44) rfl (B at_28) rfl (feq (by decide : ¬ ((7 : Int32) = (1 : Int32)))).2 (by decide) (by decide) ?_
    show GO p e below s₁ (FL m x0 x1 x2 x3 x4 x5 44 (VI 7) .unset .unset .unset .unset .unset []) _
    refine XS.iload X0.here hx rfl (B at_44) rfl ?_
    refine XS.iconst X0.here hx rfl (B at_46) ?_
    refine XS.icmpYes X0.here hx rfl (pc0 := 47) (pc' := 63) rfl (B at_47) rfl (feq (by decide : ¬ ((7 : Int32) = (2 : Int32)))).2 (by decide) (by decide) ?_
    show GO p e below s₁ (FL m x0 x1 x2 x3 x4 x5 63 (VI 7) .unset .unset .unset .unset .unset []) _
    refine XS.iload X0.here hx rfl (B at_63) rfl ?_
    refine XS.iconst X0.here hx rfl (B at_65) ?_
    refine XS.icmpYes X0.here hx rfl (pc0 := 66) (pc' := 82) rfl (B at_66) rfl (feq (by decide : ¬ ((7 : Int32) = (3 : Int32)))).2 (by decide) (by decide) ?_
    show GO p e below s₁ (FL m x0 x1 x2 x3 x4 x5 82 (VI 7) .unset .unset .unset .unset .unset []) _
    refine XS.iload X0.here hx rfl (B at_82) rfl ?_
    refine XS.iconst X0.here hx rfl (B at_84) ?_
    refine XS.icmpYes X0.here hx rfl (pc0 := 85) (pc' := 103) rfl (B at_85) rfl (feq (by decide : ¬ ((7 : Int32) = (4 : Int32)))).2 (by decide) (by decide) ?_
    show GO p e below s₁ (FL m x0 x1 x2 x3 x4 x5 103 (VI 7) .unset .unset .unset .unset .unset []) _
    refine XS.iload X0.here hx rfl (B at_103) rfl ?_
    refine XS.iconst X0.here hx rfl (B at_105) ?_
    refine XS.icmpYes X0.here hx rfl (pc0 := 106) (pc' := 124) rfl (B at_106) rfl (feq (by decide : ¬ ((7 : Int32) = (5 : Int32)))).2 (by decide) (by decide) ?_
    show GO p e below s₁ (FL m x0 x1 x2 x3 x4 x5 124 (VI 7) .unset .unset .unset .unset .unset []) _
    refine XS.iload X0.here hx rfl (B at_124) rfl ?_
    refine XS.bipush X0.here hx rfl (B at_126) ?_
    refine XS.icmpYes X0.here hx rfl (pc0 := 128) (pc' := 146) rfl (B at_128) rfl (feq (by decide : ¬ ((7 : Int32) = (6 : Int32)))).2 (by decide) (by decide) ?_
    show GO p e below s₁ (FL m x0 x1 x2 x3 x4 x5 146 (VI 7) .unset .unset .unset .unset .unset []) _
    refine XS.bipush X0.here hx rfl (B at_146) ?_
    refine st3 _ ?_
    show GO p e below T3 (FL m x0 x1 x2 x3 x4 x5 150 (VI 7) .unset .unset .unset .unset .unset [(.ref b3)]) _
    refine XS.astore X3.here hx rfl (B at_150) rfl rfl (l' := #[.val (.int x0), .val (.int x1), .val (.int x2), .val (.int x3), .val (.int x4), .val (.int x5), .val (.int (7 : Int32)), .val (.ref b3), .unset, .unset, .unset, .unset]) rfl ?_
    refine XS.bipush X3.here hx rfl (B at_152) ?_
    refine st6 _ ?_
    show GO p e below T6 (FL m x0 x1 x2 x3 x4 x5 156 (VI 7) (VR b3) .unset .unset .unset .unset [(.ref b6)]) _
    refine XS.astore X6.here hx rfl (B at_156) rfl rfl (l' := #[.val (.int x0), .val (.int x1), .val (.int x2), .val (.int x3), .val (.int x4), .val (.int x5), .val (.int (7 : Int32)), .val (.ref b3), .val (.ref b6), .unset, .unset, .unset]) rfl ?_
    refine XS.aload X6.here hx rfl (B at_158) rfl rfl ?_
    refine X6.arraylength hx (by rw [e6]; exact Ar12.1) (State.isArrayOf_alike hZ.alike Ar12.2.1) (g := (mkF m 160 #[.val (.int x0), .val (.int x1), .val (.int x2), .val (.int x3), .val (.int x4), .val (.int x5), .val (.int (7 : Int32)), .val (.ref b3), .val (.ref b6), .unset, .unset, .unset] [(.ref b3)])) rfl rfl (B at_160) _ ?_
    rw [len_of S12 M12]
    show GO p e below T6 (FL m x0 x1 x2 x3 x4 x5 161 (VI 7) (VR b3) (VR b6) .unset .unset .unset [(.int 64)]) _
    refine XS.istore X6.here hx rfl (B at_161) rfl (l' := #[.val (.int x0), .val (.int x1), .val (.int x2), .val (.int x3), .val (.int x4), .val (.int x5), .val (.int (7 : Int32)), .val (.ref b3), .val (.ref b6), .val (.int (64 : Int32)), .unset, .unset]) rfl ?_
    refine XS.aload X6.here hx rfl (B at_163) rfl rfl ?_
    refine XS.iconst X6.here hx rfl (B at_165) ?_
    refine XS.iloadN X6.here hx rfl (B at_166) rfl ?_
    refine st13 _ ?_
    show GO p e below T13 (FL m x0 x1 x2 x3 x4 x5 170 (VI 7) (VR b3) (VR b6) (VI 64) .unset .unset []) _
    refine XS.aload X13.here hx rfl (B at_170) rfl rfl ?_
    refine XS.iconst X13.here hx rfl (B at_172) ?_
    refine XS.iloadN X13.here hx rfl (B at_173) rfl ?_
    refine st18 _ ?_
    show GO p e below T18 (FL m x0 x1 x2 x3 x4 x5 177 (VI 7) (VR b3) (VR b6) (VI 64) .unset .unset []) _
    refine XS.aload X18.here hx rfl (B at_177) rfl rfl ?_
    refine XS.bipush X18.here hx rfl (B at_179) ?_
    refine XS.iloadN X18.here hx rfl (B at_181) rfl ?_
    refine st23 _ ?_
    show GO p e below T23 (FL m x0 x1 x2 x3 x4 x5 185 (VI 7) (VR b3) (VR b6) (VI 64) .unset .unset []) _
    refine XS.aload X23.here hx rfl (B at_185) rfl rfl ?_
    refine XS.bipush X23.here hx rfl (B at_187) ?_
    refine XS.iloadN X23.here hx rfl (B at_189) rfl ?_
    refine st28 _ ?_
    show GO p e below T28 (FL m x0 x1 x2 x3 x4 x5 193 (VI 7) (VR b3) (VR b6) (VI 64) .unset .unset []) _
    refine XS.aload X28.here hx rfl (B at_193) rfl rfl ?_
    refine XS.bipush X28.here hx rfl (B at_195) ?_
    refine XS.iload X28.here hx rfl (B at_197) rfl ?_
    refine st33 _ ?_
    show GO p e below T33 (FL m x0 x1 x2 x3 x4 x5 202 (VI 7) (VR b3) (VR b6) (VI 64) .unset .unset []) _
    refine XS.aload X33.here hx rfl (B at_202) rfl rfl ?_
    refine XS.iload X33.here hx rfl (B at_204) rfl ?_
    refine XS.iconst X33.here hx rfl (B at_206) ?_
    refine XS.isub X33.here hx rfl (B at_207) rfl ?_
    refine XS.iload X33.here hx rfl (B at_208) rfl ?_
    refine XS.bipush X33.here hx rfl (B at_210) ?_
    refine XS.iushr X33.here hx rfl (B at_212) rfl ?_
    refine st38 _ ?_
    show GO p e below T38 (FL m x0 x1 x2 x3 x4 x5 216 (VI 7) (VR b3) (VR b6) (VI 64) .unset .unset []) _
    refine XS.iload X38.here hx rfl (B at_216) rfl ?_
    refine XS.bipush X38.here hx rfl (B at_218) ?_
    refine st43 _ ?_
    show GO p e below T43 (FL m x0 x1 x2 x3 x4 x5 223 (VI 7) (VR b3) (VR b6) (VI 64) .unset .unset [(.int 60)]) _
    refine XS.istore X43.here hx rfl (B at_223) rfl (l' := #[.val (.int x0), .val (.int x1), .val (.int x2), .val (.int x3), .val (.int x4), .val (.int x5), .val (.int (7 : Int32)), .val (.ref b3), .val (.ref b6), .val (.int (64 : Int32)), .val (.int (60 : Int32)), .unset]) rfl ?_
    refine XS.aload X43.here hx rfl (B at_225) rfl rfl ?_
    refine XS.iconst X43.here hx rfl (B at_227) ?_
    refine XS.bipush X43.here hx rfl (B at_228) ?_
    refine st47 _ ?_
    show GO p e below T47 (FL m x0 x1 x2 x3 x4 x5 231 (VI 7) (VR b3) (VR b6) (VI 64) (VI 60) .unset []) _
    refine XS.aload X47.here hx rfl (B at_231) rfl rfl ?_
    refine XS.aload X47.here hx rfl (B at_233) rfl rfl ?_
    refine XS.iconst X47.here hx rfl (B at_235) ?_
    refine XS.iload X47.here hx rfl (B at_236) rfl ?_
    refine st52 _ ?_
    show GO p e below T52 (FL m x0 x1 x2 x3 x4 x5 241 (VI 7) (VR b3) (VR b6) (VI 64) (VI 60) .unset []) _
    refine XS.aload X52.here hx rfl (B at_241) rfl rfl ?_
    refine XS.aload X52.here hx rfl (B at_243) rfl rfl ?_
    refine XS.iconst X52.here hx rfl (B at_245) ?_
    refine XS.iload X52.here hx rfl (B at_246) rfl ?_
    refine st58 _ ?_
    show GO p e below T58 (FL m x0 x1 x2 x3 x4 x5 251 (VI 7) (VR b3) (VR b6) (VI 64) (VI 60) .unset []) _
    refine XS.aload X58.here hx rfl (B at_251) rfl rfl ?_
    refine XS.aload X58.here hx rfl (B at_253) rfl rfl ?_
    refine XS.bipush X58.here hx rfl (B at_255) ?_
    refine XS.iload X58.here hx rfl (B at_257) rfl ?_
    refine st64 _ ?_
    show GO p e below T64 (FL m x0 x1 x2 x3 x4 x5 262 (VI 7) (VR b3) (VR b6) (VI 64) (VI 60) .unset []) _
    refine XS.aload X64.here hx rfl (B at_262) rfl rfl ?_
    refine XS.aload X64.here hx rfl (B at_264) rfl rfl ?_
    refine XS.bipush X64.here hx rfl (B at_266) ?_
    refine XS.iload X64.here hx rfl (B at_268) rfl ?_
    refine st70 _ ?_
    show GO p e below T70 (FL m x0 x1 x2 x3 x4 x5 273 (VI 7) (VR b3) (VR b6) (VI 64) (VI 60) .unset []) _
    refine XS.aload X70.here hx rfl (B at_273) rfl rfl ?_
    refine XS.aload X70.here hx rfl (B at_275) rfl rfl ?_
    refine XS.bipush X70.here hx rfl (B at_277) ?_
    refine XS.iload X70.here hx rfl (B at_279) rfl ?_
    refine st75 _ ?_
    show GO p e below T75 (FL m x0 x1 x2 x3 x4 x5 284 (VI 7) (VR b3) (VR b6) (VI 64) (VI 60) .unset []) _
    refine XS.aload X75.here hx rfl (B at_284) rfl rfl ?_
    refine XS.aload X75.here hx rfl (B at_286) rfl rfl ?_
    refine XS.iload X75.here hx rfl (B at_288) rfl ?_
    refine XS.iconst X75.here hx rfl (B at_290) ?_
    refine XS.isub X75.here hx rfl (B at_291) rfl ?_
    refine XS.iload X75.here hx rfl (B at_292) rfl ?_
    refine st77 _ ?_
    show GO p e below T77 (FL m x0 x1 x2 x3 x4 x5 297 (VI 7) (VR b3) (VR b6) (VI 64) (VI 60) .unset []) _
    refine XS.iload X77.here hx rfl (B at_297) rfl ?_
    refine XS.bipush X77.here hx rfl (B at_299) ?_
    refine XS.icmpNo X77.here hx rfl (B at_301) rfl (tlt (by decide : (60 : Int32) < (64 : Int32))).2.2.2 ?_
    show GO p e below T77 (FL m x0 x1 x2 x3 x4 x5 304 (VI 7) (VR b3) (VR b6) (VI 64) (VI 60) .unset []) _
    refine XS.aload X77.here hx rfl (B at_304) rfl rfl ?_
    refine XS.bipush X77.here hx rfl (B at_306) ?_
    refine XS.bipush X77.here hx rfl (B at_308) ?_
    refine st80 _ ?_
    show GO p e below T80 (FL m x0 x1 x2 x3 x4 x5 311 (VI 7) (VR b3) (VR b6) (VI 64) (VI 60) .unset []) _
    refine XS.aload X80.here hx rfl (B at_311) rfl rfl ?_
    refine XS.bipush X80.here hx rfl (B at_313) ?_
    refine XS.bipush X80.here hx rfl (B at_315) ?_
    refine st85 _ ?_
    show GO p e below T85 (FL m x0 x1 x2 x3 x4 x5 318 (VI 7) (VR b3) (VR b6) (VI 64) (VI 60) .unset []) _
    refine XS.aload X85.here hx rfl (B at_318) rfl rfl ?_
    refine XS.bipush X85.here hx rfl (B at_320) ?_
    refine XS.bipush X85.here hx rfl (B at_322) ?_
    refine st90 _ ?_
    show GO p e below T90 (FL m x0 x1 x2 x3 x4 x5 325 (VI 7) (VR b3) (VR b6) (VI 64) (VI 60) .unset []) _
    refine XS.aload X90.here hx rfl (B at_325) rfl rfl ?_
    refine XS.bipush X90.here hx rfl (B at_327) ?_
    refine XS.bipush X90.here hx rfl (B at_329) ?_
    refine st95 _ ?_
    show GO p e below T95 (FL m x0 x1 x2 x3 x4 x5 332 (VI 7) (VR b3) (VR b6) (VI 64) (VI 60) .unset []) _
    refine XS.goto X95.here hx rfl (pc0 := 332) (pc' := 344) rfl (B at_332) (by decide) (by decide) ?_
    refine st100 _ ?_
    show GO p e below T100 (FL m x0 x1 x2 x3 x4 x5 347 (VI 7) (VR b3) (VR b6) (VI 64) (VI 60) .unset [(.ref b100)]) _
    refine XS.dup X100.here hx rfl (B at_347) rfl rfl ?_
    refine XS.aload X100.here hx rfl (B at_348) rfl rfl ?_
    refine st104.trans ?_
    show GO p e below T104 (FL m x0 x1 x2 x3 x4 x5 353 (VI 7) (VR b3) (VR b6) (VI 64) (VI 60) .unset [(.ref b100)]) _
    refine st108.trans ?_
    show GO p e below T108 (FL m x0 x1 x2 x3 x4 x5 356 (VI 7) (VR b3) (VR b6) (VI 64) (VI 60) .unset [(.ref qb108)]) _
    refine XS.astore X108.here hx rfl (B at_356) rfl rfl (l' := #[.val (.int x0), .val (.int x1), .val (.int x2), .val (.int x3), .val (.int x4), .val (.int x5), .val (.int (7 : Int32)), .val (.ref b3), .val (.ref b6), .val (.int (64 : Int32)), .val (.int (60 : Int32)), .val (.ref qb108)]) rfl ?_
    refine XS.aload X108.here hx rfl (B at_358) rfl rfl ?_
    refine st118 _ ?_
    show GO p e below T118 (FL m x0 x1 x2 x3 x4 x5 363 (VI 7) (VR b3) (VR b6) (VI 64) (VI 60) (VR qb108) [(.ref b118), (.ref qb108)]) _
    refine XS.dup X118.here hx rfl (B at_363) rfl rfl ?_
    refine XS.aload X118.here hx rfl (B at_364) rfl rfl ?_
    refine st122.trans ?_
    show GO p e below T122 (FL m x0 x1 x2 x3 x4 x5 369 (VI 7) (VR b3) (VR b6) (VI 64) (VI 60) (VR qb108) [(.ref b118), (.ref qb108)]) _
    refine st130.trans ?_
    show GO p e below T130 (FL m x0 x1 x2 x3 x4 x5 372 (VI 7) (VR b3) (VR b6) (VI 64) (VI 60) (VR qb108) [(.int (if (ql cs38) = (List.set (List.set (List.set (List.set cs70 61 (46 : Int32)) 62 (46 : Int32)) 63 (46 : Int32)) 64 (34 : Int32)) then (1 : Int32) else (0 : Int32)))]) _
    exact kgo
  have pre133 : ∀ tgt, Steps p.tables e below (T130.setTop (FL m x0 x1 x2 x3 x4 x5 372 (VI 7) (VR b3) (VR b6) (VI 64) (VI 60) (VR qb108) [(.int 1)])) tgt → Steps p.tables e below (s₁.setTop (entryFrame m #[(.int x0), (.int x1), (.int x2), (.int x3), (.int x4), (.int x5)] maxLocals)) tgt := by
    have q := pre132
    rw [if_pos hAB] at q
    exact q
  obtain ⟨fs, hretL, hrun, hended, hEnd⟩ := Stand.leaveW X130 hS108 (by rw [eq130]; exact hk124) (v := some (.int (1 : Int32))) (fun h => by rw [Bd.returns] at h; cases h)
  have hCf : CHr Z EL0 s.vm s.heap T130.vm T130.heap := by rw [hh, eq130]; exact CH124.trans (CHv.at X130 hZ108 (own_EW hw) CH124.1)
  refine ⟨_, _, pre133 _ ?_, hrun, hended, _, _, rfl, ?_, hCf, hEnd.1, hEnd.2.1, hEnd.2.2.1, hEnd.2.2.2.mono (by decide) (by decide)⟩
  · exact retOut X130 hx Bd.returns rfl (Or.inl ⟨rfl, Or.inr (Or.inl rfl), _, rfl⟩) (B at_372) hretL
  · show Q_rm0k7 Z x0 x1 x2 x3 x4 x5 G1 fm h0 n0 _ T130.heap _
    rw [eq130]
    exact ⟨rfl, N131⟩
def Q_rm0 (Z : State) (x0 : Int32) (x1 : Int32) (x2 : Int32) (x3 : Int32) (x4 : Int32) (x5 : Int32) (G1 : Int32) (fm : Value) (h0 : Heap) (n0 : Nat) (v : Option Value) (h : Heap) (L : List Loc) : Prop := v = some (.int (1 : Int32)) ∧ Fr n0 L
theorem own_and7 (x : Int32) : x &&& 7 = 0 ∨ x &&& 7 = 1 ∨ x &&& 7 = 2 ∨ x &&& 7 = 3 ∨ x &&& 7 = 4 ∨ x &&& 7 = 5 ∨ x &&& 7 = 6 ∨ x &&& 7 = 7 := by
  have h : (x &&& 7).toBitVec.toNat < 8 := by
    simp only [Int32.toBitVec_and, BitVec.toNat_and]
    exact Nat.lt_succ_of_le Nat.and_le_right
  have e : (x &&& 7) = Int32.ofNat (x &&& 7).toBitVec.toNat := by
    apply Int32.toBitVec_inj.mp
    show _ = BitVec.ofNat 32 _
    rw [BitVec.ofNat_toNat]; simp
  generalize (x &&& 7).toBitVec.toNat = k at h e
  rw [e]
  have : k = 0 ∨ k = 1 ∨ k = 2 ∨ k = 3 ∨ k = 4 ∨ k = 5 ∨ k = 6 ∨ k = 7 := by omega
  rcases this with q | q | q | q | q | q | q | q <;> subst q <;> decide
set_option maxRecDepth 65536 in
set_option maxHeartbeats 40000000 in
theorem rm0 (l : Launch) (Z : State) (a0 : Array Value) (hw : HW a0 Z) (ws : List Jvm.Cond) (x0 : Int32) (x1 : Int32) (x2 : Int32) (x3 : Int32) (x4 : Int32) (x5 : Int32) (G1 : Int32) (fm : Value) (h0 : Heap) (n0 : Nat) (O0 : Old Z n0 h0)  (O2 : Sta Z Z.heap "java/lang/String" "COMPACT_STRINGS" "Z" (.int G1)) (P5 : ¬ (G1 = (0 : Int32))) (O4 : Sta Z Z.heap "jdk/internal/util/Preconditions" "SIOOBE_FORMATTER" "Ljava/util/function/BiFunction;" fm) (rf : fm.isRef = true) :
    MetFree l x (head1 (Jvm.Cond.code x code maxLocals ret :: ws) room_1) (fun aa U => aa = #[(.int x0), (.int x1), (.int x2), (.int x3), (.int x4), (.int x5)] ∧ Z.Warmed39 U.vm ∧ U.heap = h0 ∧ CHv Z EL0 U.vm h0) (fun _ _ _ _ _ => True) (fun _ U o U' => ∃ v L, o = .returned v ∧ Q_rm0 Z x0 x1 x2 x3 x4 x5 G1 fm h0 n0 v U'.heap L ∧ CHr Z EL0 U.vm U.heap U'.vm U'.heap ∧ ReturnedEndW U o U' L 26 1745) := by
  rcases own_and7 x5 with q | q | q | q | q | q | q | q
  · exact rm0k0 l Z a0 hw ws x0 x1 x2 x3 x4 x5 G1 fm h0 n0 O0 q O2 P5 O4 rf
  · exact rm0k1 l Z a0 hw ws x0 x1 x2 x3 x4 x5 G1 fm h0 n0 O0 q O2 P5 O4 rf
  · exact rm0k2 l Z a0 hw ws x0 x1 x2 x3 x4 x5 G1 fm h0 n0 O0 q O2 P5 O4 rf
  · exact rm0k3 l Z a0 hw ws x0 x1 x2 x3 x4 x5 G1 fm h0 n0 O0 q O2 P5 O4 rf
  · exact rm0k4 l Z a0 hw ws x0 x1 x2 x3 x4 x5 G1 fm h0 n0 O0 q O2 P5 O4 rf
  · exact rm0k5 l Z a0 hw ws x0 x1 x2 x3 x4 x5 G1 fm h0 n0 O0 q O2 P5 O4 rf
  · exact rm0k6 l Z a0 hw ws x0 x1 x2 x3 x4 x5 G1 fm h0 n0 O0 q O2 P5 O4 rf
  · exact rm0k7 l Z a0 hw ws x0 x1 x2 x3 x4 x5 G1 fm h0 n0 O0 q O2 P5 O4 rf
set_option maxRecDepth 65536 in
set_option maxHeartbeats 40000000 in
theorem comes_1 {Post : Tables → Env → Array Value → State → Outcome → State → Prop} (hpost : ∀ tb e args s v u, (limb_1_1.after args s (.returned v) u = true ∧ limb_1_2.after args s (.returned v) u = true ∧ True) → ReturnedEndW s (.returned v) u (Jvm.fieldLocs frame_1_writes args s ++ Jvm.arrayLocs frame_1_arrays args s ++ Jvm.staticLocs frame_1_statics s) 56 4928 → Post tb e args s (.returned v) u) :
    ArmFor flags0 classFile x code maxLocals ret World_1 tables_1 room_1 Calls_1 rest_1 Pre_1 Post := by
  intro l hfl _ _ p e ha hc hk s m args below hf hA hF happ hP
  obtain ⟨hcalls, hrest, hpre⟩ := hP
  obtain ⟨-, -, -, hnamed, -, -, -, hat⟩ := (Spec.applies_iff hf).mp happ
  obtain ⟨hg, hn⟩ := and_e (Cond.before_iff.mp (show (Jvm.Cond.and given_1 narrow_1).before args s = true from hpre))
  obtain ⟨u1, v1⟩ := and_e hg
  obtain ⟨u2, v2⟩ := and_e v1
  obtain ⟨u3, v3⟩ := and_e v2
  obtain ⟨u4, v4⟩ := and_e v3
  obtain ⟨u5, v5⟩ := and_e v4
  obtain ⟨u6, v6⟩ := and_e v5
  obtain ⟨w0, w1, w2, w3, w4, w5, rfl⟩ : ∃ w0 w1 w2 w3 w4 w5 : Value, args = #[w0, w1, w2, w3, w4, w5] := by
    have hs : args.size = 6 := by simpa [Cond.value, given_1] using u1
    obtain ⟨L⟩ := args
    match L, hs with
    | [w0, w1, w2, w3, w4, w5], _ => exact ⟨w0, w1, w2, w3, w4, w5, rfl⟩
  have hw := fun d (hd : d ∈ tables_1) => atoms_spec (ws := Jvm.Cond.code x code maxLocals ret :: tables_1) hat d (List.mem_cons_of_mem _ hd)
  have hfit : Fit s := fun {y c} hc i hi => by
    obtain ⟨ha, rfl⟩ := Array.getElem?_eq_some_iff.mp hc
    have q := List.all_eq_true.mp ((Array.all_eq_true_iff_forall_mem.mp hF) _ (Array.getElem_mem ha)) i (List.mem_range.mpr hi)
    simpa [Array.getElem?_eq_getElem hi] using q
  obtain ⟨i0, ei0⟩ := is_v u2
  obtain rfl : w0 = (.int i0) := Option.some.inj ei0
  obtain ⟨i1, ei1⟩ := is_v u3
  obtain rfl : w1 = (.int i1) := Option.some.inj ei1
  obtain ⟨i2, ei2⟩ := is_v u4
  obtain rfl : w2 = (.int i2) := Option.some.inj ei2
  obtain ⟨i3, ei3⟩ := is_v u5
  obtain rfl : w3 = (.int i3) := Option.some.inj ei3
  obtain ⟨i4, ei4⟩ := is_v u6
  obtain rfl : w4 = (.int i4) := Option.some.inj ei4
  obtain ⟨i5, ei5⟩ := is_v v6
  obtain rfl : w5 = (.int i5) := Option.some.inj ei5
  obtain ⟨hsets, hown0⟩ := atoms_of _ (rest_1_c_eq ▸ (show rest_1_c.before _ s = true from hrest))
  have hci := hsets _ (List.mem_of_getElem? (i := 0) rfl)
  obtain ⟨G1, evG⟩ := is_v (Cond.before_iff.mp (hsets _ (List.mem_of_getElem? (i := 1) rfl)))
  have O2 := Sta.start evG (Or.inl hci)
  have P5 : ¬ (G1 = (0 : Int32)) := fun q => by
    have hq := not_v (Cond.before_iff.mp (hsets _ (List.mem_of_getElem? (i := 2) rfl)))
    subst q
    rw [Cond.value, evG, Term.int_eval] at hq
    simp at hq
  have hcj := hsets _ (List.mem_of_getElem? (i := 7) rfl)
  obtain ⟨fm, evF, rf⟩ := isR_v (Cond.before_iff.mp (hsets _ (List.mem_of_getElem? (i := 8) rfl)))
  have O4 := Sta.start evF (Or.inl hcj)
  have hCH : CHv s EL0 s.vm s.heap := CHv.start (own_EW hw) hcalls.1 (own_cw hsets) (ow30 hw) (ow13 hw)
  obtain ⟨n, o, h1, h2, h3, _, L, rfl, ⟨rfl, N⟩, -, hq⟩ := rm0 l s _ hw tables_1 i0 i1 i2 i3 i4 i5 G1 fm s.heap s.heap.size (Old.start s) O2 P5 O4 rf p e ha hc hk s m _ below hf ((Spec.applies_iff_loose hf).mp happ).1 ⟨rfl, State.Warmed39.refl s, rfl, hCH⟩ trivial
  refine ⟨n, _, h1, h2, h3, hpost _ _ _ _ _ _ ⟨Cond.after_iff.mpr rfl, Cond.after_iff.mpr (eq_i res_at (Term.int_eval (1)) rfl), trivial⟩ ⟨hq.1, hq.2.1, hq.2.2.1, (hq.2.2.2.sift fun y hy => Or.inr (N y hy)).mono (by decide) (by decide)⟩⟩
theorem main_1_1 : Claimed_1_1 := comes_1 fun _ _ _ _ _ _ h hF => ⟨h.1, hF⟩
theorem main_1_2 : Claimed_1_2 := comes_1 fun _ _ _ _ _ _ h hF => ⟨h.2.1, hF⟩
end Jvm.Pilot.@@N@@
namespace Jvm.Pilot.@@N@@
open Jvm Jvm.ClassFile Sem Op Lib Jvm.Free Jvm.Stand Jvm.Pilot.@@N@@.Jvm.D
/-! MADE BY PROGRAM (witnessworld.py) out of the Statement's table words and the real class files: 26 classes; the members and pool entries that the words name. The judged class is class 1, her method 1. -/
namespace start1
open Jvm.ClassFile
def u (s : String) : CpInfo := .utf8 (stringToUtf16 s)
/-- a pool by its gaps: so many unusable entries, then the entry; so many at the end -/
def gap : Nat → List CpInfo → List CpInfo
  | 0, r => r
  | n + 1, r => .unusable :: gap n r
def poolList (es : List (Nat × CpInfo)) (last : Nat) : List CpInfo := es.foldr (fun e r => gap e.1 (e.2 :: r)) (gap last [])
def pool (es : List (Nat × CpInfo)) (last : Nat) : Array CpInfo := ⟨poolList es last⟩
def fileOf (pool : Array CpInfo) (this : Nat) (attrs : Array Attribute := #[]) (ms : Array MethodInfo := #[]) (fl : Nat := 33) (sup : Nat := 0) (ifs : Array Nat := #[]) (fds : Array FieldInfo := #[]) : ClassFile where
  minorVersion := 0
  majorVersion := 65
  constantPool := pool
  accessFlags := fl
  thisClass := this
  superClass := sup
  interfaces := ifs
  fields := fds
  methods := ms
  attributes := attrs
def plain (name : String) (sup : Option ClassId) : Class where
  name := name
  kind := .ordinary
  loader := none
  accessFlags := 33
  super := sup
  interfaces := #[]
  cf := none
  fields := #[]
  methods := #[]
  instanceTypes := #[]
  staticTypes := #[]
  resolved := #[]
  callSites := []
  init := .initialized
  statics := none
  mirror := none

def pool0 : Array CpInfo := pool [(5, u "<init>"), (0, u "()V"), (1, .class_ 10), (1, u "java/lang/Object")] 113

def k0c0 : Code := { maxStack := 0, maxLocals := 1, code := object_method_1_code, exceptionTable := #[], attributes := #[] }
def k0m0 : Method := { name := "<init>", desc := "()V", sig := { parameters := [], returnType := none }, accessFlags := 1, code := some k0c0 }
/-- java/lang/Object -/
def k0 : Class := { plain "java/lang/Object" none with
  accessFlags := 33
  interfaces := #[]
  cf := some (fileOf pool0 8 #[] #[{ accessFlags := 1, nameIndex := 5, descriptorIndex := 6, attributes := #[] }] 33 0 #[] #[])
  fields := #[]
  methods := #[k0m0]
  instanceTypes := #[]
  staticTypes := #[]
  resolved := Array.replicate 124 none
  statics := none }

def pool1 : Array CpInfo := pool [(2, .class_ 4), (1, u "java/lang/Object"), (0, u "<init>"), (0, u "()V"), (0, .methodref 8 9), (0, .class_ 10), (0, .nameAndType 11 12), (0, u "com/example/atropos/atropos/io/CurveTextQuotePinLaw"), (0, u "put"), (0, u "([CII)V"), (0, .methodref 14 15), (0, .class_ 16), (0, .nameAndType 17 18), (0, u "java/lang/Math"), (0, u "min"), (0, u "(II)I"), (0, .methodref 8 20), (0, .nameAndType 21 22), (0, u "copy"), (0, u "([C[CII)V"), (0, .class_ 24), (0, u "java/lang/String"), (0, .methodref 23 26), (0, .nameAndType 5 27), (0, u "([C)V"), (0, .methodref 29 30), (0, .class_ 31), (0, .nameAndType 32 33), (0, u "com/example/atropos/atropos/io/CurveText"), (0, u "quote"), (0, u "(Ljava/lang/String;)Ljava/lang/String;"), (0, .methodref 23 35), (0, .nameAndType 36 37), (0, u "equals"), (0, u "(Ljava/lang/Object;)Z"), (2, u "law"), (0, u "(IIIIII)Z")] 5

def k1m0 : Method := { name := "<init>", desc := "()V", sig := { parameters := [], returnType := none }, accessFlags := 1, code := none }
def k1c1 : Code := { maxStack := 4, maxLocals := 12, code := code, exceptionTable := #[], attributes := #[] }
def k1m1 : Method := { name := "law", desc := "(IIIIII)Z", sig := { parameters := [.int, .int, .int, .int, .int, .int], returnType := some .boolean }, accessFlags := 9, code := some k1c1 }
def k1c2 : Code := { maxStack := 4, maxLocals := 3, code := method_3_code, exceptionTable := #[], attributes := #[] }
def k1m2 : Method := { name := "put", desc := "([CII)V", sig := { parameters := [(.array .char), .int, .int], returnType := none }, accessFlags := 10, code := some k1c2 }
def k1c3 : Code := { maxStack := 4, maxLocals := 4, code := method_4_code, exceptionTable := #[], attributes := #[] }
def k1m3 : Method := { name := "copy", desc := "([C[CII)V", sig := { parameters := [(.array .char), (.array .char), .int, .int], returnType := none }, accessFlags := 10, code := some k1c3 }
/-- com/example/atropos/atropos/io/CurveTextQuotePinLaw -/
def k1 : Class := { plain "com/example/atropos/atropos/io/CurveTextQuotePinLaw" (some 0) with
  accessFlags := 49
  interfaces := #[]
  cf := some (fileOf pool1 8 #[] #[{ accessFlags := 1, nameIndex := 5, descriptorIndex := 6, attributes := #[] }, { accessFlags := 9, nameIndex := 40, descriptorIndex := 41, attributes := #[] }, { accessFlags := 10, nameIndex := 11, descriptorIndex := 12, attributes := #[] }, { accessFlags := 10, nameIndex := 21, descriptorIndex := 22, attributes := #[] }] 49 2 #[] #[])
  fields := #[]
  methods := #[k1m0, k1m1, k1m2, k1m3]
  instanceTypes := #[]
  staticTypes := #[]
  resolved := Array.replicate 47 none
  statics := none }

def pool2 : Array CpInfo := pool [(1, .class_ 2), (0, u "java/lang/Math"), (1, .class_ 6), (1, u "java/lang/Object"), (0, u "<init>"), (0, u "()V"), (89, .class_ 100), (1, u "java/lang/Math$RandomNumberGeneratorHolder"), (71, u "negativeZeroFloatBits"), (0, u "J"), (2, u "negativeZeroDoubleBits"), (21, u "max"), (2, u "min"), (43, u "$assertionsDisabled"), (0, u "Z"), (88, u "(II)I"), (2, u "twoToTheDoubleScaleDown"), (0, u "D"), (4, u "twoToTheDoubleScaleUp"), (9, u "E"), (3, u "PI"), (2, u "TAU"), (2, u "DEGREES_TO_RADIANS"), (0, u "RADIANS_TO_DEGREES")] 94

def k2m0 : Method := { name := "<init>", desc := "()V", sig := { parameters := [], returnType := none }, accessFlags := 2, code := none }
def k2c1 : Code := { maxStack := 2, maxLocals := 2, code := jdk_29_method_65_code, exceptionTable := #[], attributes := #[] }
def k2m1 : Method := { name := "max", desc := "(II)I", sig := { parameters := [.int, .int], returnType := some .int }, accessFlags := 9, code := some k2c1 }
def k2c2 : Code := { maxStack := 2, maxLocals := 2, code := jdk_29_method_69_code, exceptionTable := #[], attributes := #[] }
def k2m2 : Method := { name := "min", desc := "(II)I", sig := { parameters := [.int, .int], returnType := some .int }, accessFlags := 9, code := some k2c2 }
/-- java/lang/Math -/
def k2 : Class := { plain "java/lang/Math" (some 0) with
  accessFlags := 49
  interfaces := #[]
  cf := some (fileOf pool2 1 #[.nestMembers #[98]] #[{ accessFlags := 2, nameIndex := 7, descriptorIndex := 8, attributes := #[] }, { accessFlags := 9, nameIndex := 198, descriptorIndex := 335, attributes := #[] }, { accessFlags := 9, nameIndex := 201, descriptorIndex := 335, attributes := #[] }] 49 4 #[] #[{ accessFlags := 25, nameIndex := 354, descriptorIndex := 339, attributes := #[] }, { accessFlags := 25, nameIndex := 358, descriptorIndex := 339, attributes := #[] }, { accessFlags := 25, nameIndex := 361, descriptorIndex := 339, attributes := #[] }, { accessFlags := 26, nameIndex := 364, descriptorIndex := 339, attributes := #[] }, { accessFlags := 26, nameIndex := 365, descriptorIndex := 339, attributes := #[] }, { accessFlags := 26, nameIndex := 172, descriptorIndex := 173, attributes := #[] }, { accessFlags := 26, nameIndex := 176, descriptorIndex := 173, attributes := #[] }, { accessFlags := 8, nameIndex := 344, descriptorIndex := 339, attributes := #[] }, { accessFlags := 8, nameIndex := 338, descriptorIndex := 339, attributes := #[] }, { accessFlags := 4120, nameIndex := 245, descriptorIndex := 246, attributes := #[] }])
  fields := #[{ name := "E", type := .double, accessFlags := 25, slot := 0, constantValue := 0 }, { name := "PI", type := .double, accessFlags := 25, slot := 1, constantValue := 0 }, { name := "TAU", type := .double, accessFlags := 25, slot := 2, constantValue := 0 }, { name := "DEGREES_TO_RADIANS", type := .double, accessFlags := 26, slot := 3, constantValue := 0 }, { name := "RADIANS_TO_DEGREES", type := .double, accessFlags := 26, slot := 4, constantValue := 0 }, { name := "negativeZeroFloatBits", type := .long, accessFlags := 26, slot := 5, constantValue := 0 }, { name := "negativeZeroDoubleBits", type := .long, accessFlags := 26, slot := 6, constantValue := 0 }, { name := "twoToTheDoubleScaleUp", type := .double, accessFlags := 8, slot := 7, constantValue := 0 }, { name := "twoToTheDoubleScaleDown", type := .double, accessFlags := 8, slot := 8, constantValue := 0 }, { name := "$assertionsDisabled", type := .boolean, accessFlags := 4120, slot := 9, constantValue := 0 }]
  methods := #[k2m0, k2m1, k2m2]
  instanceTypes := #[]
  staticTypes := #[.double, .double, .double, .double, .double, .long, .long, .double, .double, .boolean]
  resolved := Array.replicate 460 none
  statics := none }

def pool3 : Array CpInfo := pool [(1, .class_ 2), (0, u "java/io/Serializable"), (0, .class_ 4), (0, u "java/lang/Object")] 2

/-- java/io/Serializable -/
def k3 : Class := { plain "java/io/Serializable" (some 0) with
  accessFlags := 1537
  interfaces := #[]
  cf := some (fileOf pool3 1 #[] #[] 1537 3 #[] #[])
  fields := #[]
  methods := #[]
  instanceTypes := #[]
  staticTypes := #[]
  resolved := Array.replicate 7 none
  statics := none }

def pool4 : Array CpInfo := pool [(1, .class_ 2), (0, u "java/lang/Comparable"), (0, .class_ 4), (0, u "java/lang/Object")] 7

/-- java/lang/Comparable -/
def k4 : Class := { plain "java/lang/Comparable" (some 0) with
  accessFlags := 1537
  interfaces := #[]
  cf := some (fileOf pool4 1 #[] #[] 1537 3 #[] #[])
  fields := #[]
  methods := #[]
  instanceTypes := #[]
  staticTypes := #[]
  resolved := Array.replicate 12 none
  statics := none }

def pool5 : Array CpInfo := pool [(2, .class_ 4), (1, u "java/lang/CharSequence"), (42, .class_ 48), (0, u "java/lang/CharSequence$1CodePointIterator"), (10, .class_ 60), (0, u "java/lang/CharSequence$1CharIterator"), (5, .class_ 67), (0, u "java/lang/Object")] 63

/-- java/lang/CharSequence -/
def k5 : Class := { plain "java/lang/CharSequence" (some 0) with
  accessFlags := 1537
  interfaces := #[]
  cf := some (fileOf pool5 2 #[.nestMembers #[47, 59]] #[] 1537 66 #[] #[])
  fields := #[]
  methods := #[]
  instanceTypes := #[]
  staticTypes := #[]
  resolved := Array.replicate 131 none
  statics := none }

def pool6 : Array CpInfo := pool [(1, .class_ 2), (0, u "java/lang/constant/Constable"), (0, .class_ 4), (0, u "java/lang/Object")] 6

/-- java/lang/constant/Constable -/
def k6 : Class := { plain "java/lang/constant/Constable" (some 0) with
  accessFlags := 1537
  interfaces := #[]
  cf := some (fileOf pool6 1 #[] #[] 1537 3 #[] #[])
  fields := #[]
  methods := #[]
  instanceTypes := #[]
  staticTypes := #[]
  resolved := Array.replicate 11 none
  statics := none }

def pool7 : Array CpInfo := pool [(1, .class_ 2), (0, u "java/lang/constant/ConstantDesc"), (0, .class_ 4), (0, u "java/lang/Object")] 32

/-- java/lang/constant/ConstantDesc -/
def k7 : Class := { plain "java/lang/constant/ConstantDesc" (some 0) with
  accessFlags := 1537
  interfaces := #[]
  cf := some (fileOf pool7 1 #[] #[] 1537 3 #[] #[])
  fields := #[]
  methods := #[]
  instanceTypes := #[]
  staticTypes := #[]
  resolved := Array.replicate 37 none
  statics := none }

def pool8 : Array CpInfo := pool [(1, .methodref 2 3), (0, .class_ 4), (0, .nameAndType 5 6), (0, u "java/lang/Object"), (0, u "<init>"), (0, u "()V"), (0, .string 8), (0, u ""), (0, .fieldref 10 11), (0, .class_ 12), (0, .nameAndType 13 14), (0, u "java/lang/String"), (0, u "value"), (0, u "[B"), (0, .fieldref 10 16), (0, .nameAndType 17 18), (0, u "coder"), (0, u "B"), (2, u "hash"), (0, u "I"), (2, u "hashIsZero"), (0, u "Z"), (0, .methodref 10 28), (0, .nameAndType 5 29), (0, u "([CIILjava/lang/Void;)V"), (8, .fieldref 10 39), (0, .nameAndType 40 26), (0, u "COMPACT_STRINGS"), (1, .class_ 44), (1, u "java/lang/StringUTF16"), (0, u "compress"), (1, .methodref 42 48), (0, .nameAndType 49 50), (0, u "coderFromArrayLen"), (0, u "([BI)B"), (3, .methodref 55 56), (0, .class_ 57), (0, .nameAndType 58 59), (0, u "java/util/Arrays"), (0, u "copyOfRange"), (0, u "([BII)[B"), (47, .class_ 109), (1, u "java/lang/StringLatin1"), (32, u "()Z"), (34, .methodref 42 178), (0, .nameAndType 45 179), (0, u "([CII)[B"), (13, .class_ 195), (1, u "java/lang/System"), (15, u "([BB)V"), (0, .methodref 193 213), (0, .nameAndType 214 215), (0, u "arraycopy"), (0, u "(Ljava/lang/Object;ILjava/lang/Object;II)V"), (118, u "()I"), (0, .methodref 10 336), (0, .nameAndType 17 337), (0, u "()B"), (2, u "()[B"), (148, .methodref 10 490), (0, .nameAndType 5 491), (0, u "(Ljava/lang/AbstractStringBuilder;Ljava/lang/Void;)V"), (0, .methodref 10 493), (0, .nameAndType 494 142), (0, u "isLatin1"), (10, .methodref 10 506), (0, .nameAndType 507 334), (0, u "length"), (5, u "checkFromToIndex"), (7, .methodref 10 522), (0, .nameAndType 523 524), (0, u "checkBoundsBeginEnd"), (0, u "(III)V"), (7, u "getBytes"), (8, .methodref 107 542), (0, .nameAndType 543 544), (0, u "equals"), (0, u "([B[B)Z"), (4, .methodref 550 506), (0, .class_ 551), (0, u "java/lang/AbstractStringBuilder"), (0, .methodref 550 553), (0, .nameAndType 554 340), (0, u "getValue"), (18, u "(Ljava/lang/Object;)Z"), (1, .class_ 576), (0, u "java/lang/CharSequence"), (22, u "CASE_INSENSITIVE_ORDER"), (0, u "Ljava/util/Comparator;"), (82, u "substring"), (0, u "(II)Ljava/lang/String;"), (0, .methodref 107 686), (0, .nameAndType 687 688), (0, u "newString"), (0, u "([BII)Ljava/lang/String;"), (132, u "([BIB)V"), (188, u "([C)V"), (36, .methodref 550 493), (5, .fieldref 1054 1055), (0, .class_ 1056), (0, .nameAndType 1057 1058), (0, u "jdk/internal/util/Preconditions"), (0, u "SIOOBE_FORMATTER"), (0, u "Ljava/util/function/BiFunction;"), (3, .methodref 1054 1063), (0, .nameAndType 513 1064), (0, u "(IIILjava/util/function/BiFunction;)I"), (36, u "serialPersistentFields"), (0, u "[Ljava/io/ObjectStreamField;"), (0, .class_ 1104), (0, u "java/lang/String$CaseInsensitiveComparator"), (1, .class_ 1107), (0, u "java/io/Serializable"), (0, .class_ 1109), (0, u "java/lang/Comparable"), (0, .class_ 1111), (0, u "java/lang/constant/Constable"), (0, .class_ 1113), (0, u "java/lang/constant/ConstantDesc"), (2, u "serialVersionUID"), (0, u "J"), (3, u "REPL"), (0, u "C"), (2, u "LATIN1"), (1, u "UTF16"), (105, u "(Ljava/lang/StringBuilder;)V")] 217

def k8m0 : Method := { name := "<init>", desc := "()V", sig := { parameters := [], returnType := none }, accessFlags := 1, code := none }
def k8c1 : Code := { maxStack := 5, maxLocals := 2, code := jdk_42_method_3_code, exceptionTable := #[], attributes := #[] }
def k8m1 : Method := { name := "<init>", desc := "([C)V", sig := { parameters := [(.array .char)], returnType := none }, accessFlags := 1, code := some k8c1 }
def k8c2 : Code := { maxStack := 3, maxLocals := 2, code := jdk_42_method_53_code, exceptionTable := #[], attributes := #[] }
def k8m2 : Method := { name := "<init>", desc := "(Ljava/lang/StringBuilder;)V", sig := { parameters := [(.object "java/lang/StringBuilder")], returnType := none }, accessFlags := 1, code := some k8c2 }
def k8c3 : Code := { maxStack := 2, maxLocals := 1, code := jdk_42_method_54_code, exceptionTable := #[], attributes := #[] }
def k8m3 : Method := { name := "length", desc := "()I", sig := { parameters := [], returnType := some .int }, accessFlags := 1, code := some k8c3 }
def k8c4 : Code := { maxStack := 2, maxLocals := 3, code := jdk_42_method_66_code, exceptionTable := #[], attributes := #[] }
def k8m4 : Method := { name := "equals", desc := "(Ljava/lang/Object;)Z", sig := { parameters := [(.object "java/lang/Object")], returnType := some .boolean }, accessFlags := 1, code := some k8c4 }
def k8c5 : Code := { maxStack := 3, maxLocals := 5, code := jdk_42_method_92_code, exceptionTable := #[], attributes := #[] }
def k8m5 : Method := { name := "substring", desc := "(II)Ljava/lang/String;", sig := { parameters := [.int, .int], returnType := some (.object "java/lang/String") }, accessFlags := 1, code := some k8c5 }
def k8c6 : Code := { maxStack := 5, maxLocals := 4, code := jdk_42_method_147_code, exceptionTable := #[], attributes := #[] }
def k8m6 : Method := { name := "getBytes", desc := "([BIB)V", sig := { parameters := [(.array .byte), .int, .byte], returnType := none }, accessFlags := 0, code := some k8c6 }
def k8c7 : Code := { maxStack := 4, maxLocals := 6, code := jdk_42_method_149_code, exceptionTable := #[], attributes := #[] }
def k8m7 : Method := { name := "<init>", desc := "([CIILjava/lang/Void;)V", sig := { parameters := [(.array .char), .int, .int, (.object "java/lang/Void")], returnType := none }, accessFlags := 2, code := some k8c7 }
def k8c8 : Code := { maxStack := 5, maxLocals := 5, code := jdk_42_method_150_code, exceptionTable := #[], attributes := #[] }
def k8m8 : Method := { name := "<init>", desc := "(Ljava/lang/AbstractStringBuilder;Ljava/lang/Void;)V", sig := { parameters := [(.object "java/lang/AbstractStringBuilder"), (.object "java/lang/Void")], returnType := none }, accessFlags := 0, code := some k8c8 }
def k8c9 : Code := { maxStack := 2, maxLocals := 3, code := jdk_42_method_151_code, exceptionTable := #[], attributes := #[] }
def k8m9 : Method := { name := "<init>", desc := "([BB)V", sig := { parameters := [(.array .byte), .byte], returnType := none }, accessFlags := 0, code := some k8c9 }
def k8c10 : Code := { maxStack := 1, maxLocals := 1, code := jdk_42_method_152_code, exceptionTable := #[], attributes := #[] }
def k8m10 : Method := { name := "coder", desc := "()B", sig := { parameters := [], returnType := some .byte }, accessFlags := 0, code := some k8c10 }
def k8c11 : Code := { maxStack := 1, maxLocals := 1, code := jdk_42_method_154_code, exceptionTable := #[], attributes := #[] }
def k8m11 : Method := { name := "isLatin1", desc := "()Z", sig := { parameters := [], returnType := some .boolean }, accessFlags := 0, code := some k8c11 }
def k8c12 : Code := { maxStack := 4, maxLocals := 3, code := jdk_42_method_158_code, exceptionTable := #[], attributes := #[] }
def k8m12 : Method := { name := "checkBoundsBeginEnd", desc := "(III)V", sig := { parameters := [.int, .int, .int], returnType := none }, accessFlags := 8, code := some k8c12 }
/-- java/lang/String -/
def k8 : Class := { plain "java/lang/String" (some 0) with
  accessFlags := 49
  interfaces := #[3, 4, 5, 6, 7]
  cf := some (fileOf pool8 10 #[.nestMembers #[1103]] #[{ accessFlags := 1, nameIndex := 5, descriptorIndex := 6, attributes := #[] }, { accessFlags := 1, nameIndex := 5, descriptorIndex := 1010, attributes := #[] }, { accessFlags := 1, nameIndex := 5, descriptorIndex := 1233, attributes := #[] }, { accessFlags := 1, nameIndex := 507, descriptorIndex := 334, attributes := #[] }, { accessFlags := 1, nameIndex := 543, descriptorIndex := 573, attributes := #[] }, { accessFlags := 1, nameIndex := 683, descriptorIndex := 684, attributes := #[] }, { accessFlags := 0, nameIndex := 532, descriptorIndex := 821, attributes := #[] }, { accessFlags := 2, nameIndex := 5, descriptorIndex := 29, attributes := #[] }, { accessFlags := 0, nameIndex := 5, descriptorIndex := 491, attributes := #[] }, { accessFlags := 0, nameIndex := 5, descriptorIndex := 211, attributes := #[] }, { accessFlags := 0, nameIndex := 17, descriptorIndex := 337, attributes := #[] }, { accessFlags := 0, nameIndex := 494, descriptorIndex := 142, attributes := #[] }, { accessFlags := 8, nameIndex := 523, descriptorIndex := 524, attributes := #[] }] 49 2 #[1106, 1108, 575, 1110, 1112] #[{ accessFlags := 18, nameIndex := 13, descriptorIndex := 14, attributes := #[] }, { accessFlags := 18, nameIndex := 17, descriptorIndex := 18, attributes := #[] }, { accessFlags := 2, nameIndex := 21, descriptorIndex := 22, attributes := #[] }, { accessFlags := 2, nameIndex := 25, descriptorIndex := 26, attributes := #[] }, { accessFlags := 26, nameIndex := 1116, descriptorIndex := 1117, attributes := #[] }, { accessFlags := 24, nameIndex := 40, descriptorIndex := 26, attributes := #[] }, { accessFlags := 26, nameIndex := 1101, descriptorIndex := 1102, attributes := #[] }, { accessFlags := 26, nameIndex := 1121, descriptorIndex := 1122, attributes := #[] }, { accessFlags := 25, nameIndex := 599, descriptorIndex := 600, attributes := #[] }, { accessFlags := 24, nameIndex := 1125, descriptorIndex := 18, attributes := #[] }, { accessFlags := 24, nameIndex := 1127, descriptorIndex := 18, attributes := #[] }])
  fields := #[{ name := "value", type := (.array .byte), accessFlags := 18, slot := 0, constantValue := 0 }, { name := "coder", type := .byte, accessFlags := 18, slot := 1, constantValue := 0 }, { name := "hash", type := .int, accessFlags := 2, slot := 2, constantValue := 0 }, { name := "hashIsZero", type := .boolean, accessFlags := 2, slot := 3, constantValue := 0 }, { name := "serialVersionUID", type := .long, accessFlags := 26, slot := 0, constantValue := 0 }, { name := "COMPACT_STRINGS", type := .boolean, accessFlags := 24, slot := 1, constantValue := 0 }, { name := "serialPersistentFields", type := (.array (.object "java/io/ObjectStreamField")), accessFlags := 26, slot := 2, constantValue := 0 }, { name := "REPL", type := .char, accessFlags := 26, slot := 3, constantValue := 0 }, { name := "CASE_INSENSITIVE_ORDER", type := (.object "java/util/Comparator"), accessFlags := 25, slot := 4, constantValue := 0 }, { name := "LATIN1", type := .byte, accessFlags := 24, slot := 5, constantValue := 0 }, { name := "UTF16", type := .byte, accessFlags := 24, slot := 6, constantValue := 0 }]
  methods := #[k8m0, k8m1, k8m2, k8m3, k8m4, k8m5, k8m6, k8m7, k8m8, k8m9, k8m10, k8m11, k8m12]
  instanceTypes := #[(.array .byte), .byte, .int, .boolean]
  staticTypes := #[.long, .boolean, (.array (.object "java/io/ObjectStreamField")), .char, (.object "java/util/Comparator"), .byte, .byte]
  resolved := Array.replicate 1451 none
  statics := some 0 }

def pool9 : Array CpInfo := pool [(6, .class_ 8), (1, u "java/lang/Object"), (0, u "<init>"), (0, u "()V"), (1, .class_ 14), (1, u "java/lang/StringUTF16"), (31, u "$assertionsDisabled"), (0, u "Z"), (13, u "HI_BYTE_SHIFT"), (0, u "I"), (2, u "LO_BYTE_SHIFT"), (49, .methodref 12 116), (0, .nameAndType 117 118), (0, u "compress"), (0, u "([CI[BII)I"), (3, u "([CII)[B"), (138, u "coderFromArrayLen"), (0, u "([BI)B"), (106, .class_ 371), (1, u "java/lang/StringUTF16$LinesSpliterator"), (58, u "MAX_LENGTH"), (196, .class_ 628), (0, u "java/lang/StringUTF16$CodePointsSpliterator"), (0, .class_ 630), (0, u "java/lang/StringUTF16$CharsSpliterator")] 4

def k9m0 : Method := { name := "<init>", desc := "()V", sig := { parameters := [], returnType := none }, accessFlags := 0, code := none }
def k9c1 : Code := { maxStack := 2, maxLocals := 2, code := jdk_52_method_15_code, exceptionTable := #[], attributes := #[] }
def k9m1 : Method := { name := "coderFromArrayLen", desc := "([BI)B", sig := { parameters := [(.array .byte), .int], returnType := some .byte }, accessFlags := 8, code := some k9c1 }
def k9c2 : Code := { maxStack := 5, maxLocals := 6, code := jdk_52_method_16_code, exceptionTable := #[], attributes := #[] }
def k9m2 : Method := { name := "compress", desc := "([CII)[B", sig := { parameters := [(.array .char), .int, .int], returnType := some (.array .byte) }, accessFlags := 9, code := some k9c2 }
def k9c3 : Code := { maxStack := 3, maxLocals := 7, code := jdk_52_method_21_code, exceptionTable := #[], attributes := #[] }
def k9m3 : Method := { name := "compress", desc := "([CI[BII)I", sig := { parameters := [(.array .char), .int, (.array .byte), .int, .int], returnType := some .int }, accessFlags := 9, code := some k9c3 }
/-- java/lang/StringUTF16 -/
def k9 : Class := { plain "java/lang/StringUTF16" (some 0) with
  accessFlags := 48
  interfaces := #[]
  cf := some (fileOf pool9 12 #[.nestMembers #[627, 629, 369]] #[{ accessFlags := 0, nameIndex := 9, descriptorIndex := 10, attributes := #[] }, { accessFlags := 8, nameIndex := 261, descriptorIndex := 262, attributes := #[] }, { accessFlags := 9, nameIndex := 117, descriptorIndex := 122, attributes := #[] }, { accessFlags := 9, nameIndex := 117, descriptorIndex := 118, attributes := #[] }] 48 6 #[] #[{ accessFlags := 26, nameIndex := 61, descriptorIndex := 62, attributes := #[] }, { accessFlags := 26, nameIndex := 65, descriptorIndex := 62, attributes := #[] }, { accessFlags := 24, nameIndex := 430, descriptorIndex := 62, attributes := #[] }, { accessFlags := 4120, nameIndex := 46, descriptorIndex := 47, attributes := #[] }])
  fields := #[{ name := "HI_BYTE_SHIFT", type := .int, accessFlags := 26, slot := 0, constantValue := 0 }, { name := "LO_BYTE_SHIFT", type := .int, accessFlags := 26, slot := 1, constantValue := 0 }, { name := "MAX_LENGTH", type := .int, accessFlags := 24, slot := 2, constantValue := 0 }, { name := "$assertionsDisabled", type := .boolean, accessFlags := 4120, slot := 3, constantValue := 0 }]
  methods := #[k9m0, k9m1, k9m2, k9m3]
  instanceTypes := #[]
  staticTypes := #[.int, .int, .int, .boolean]
  resolved := Array.replicate 635 none
  statics := none }

def pool10 : Array CpInfo := pool [(2, .class_ 4), (0, .nameAndType 5 6), (0, u "java/lang/Object"), (0, u "<init>"), (0, u "()V"), (1, .class_ 10), (1, u "java/lang/String"), (1, u "()Ljava/lang/String;"), (21, .class_ 36), (1, u "com/example/atropos/atropos/io/CurveText"), (13, u "SEPARATOR"), (0, u "Ljava/util/regex/Pattern;"), (19, .class_ 72), (0, u "java/lang/StringBuilder"), (0, .methodref 71 3), (2, u "quote"), (0, u "(Ljava/lang/String;)Ljava/lang/String;"), (0, .methodref 71 79), (0, .nameAndType 80 81), (0, u "append"), (0, u "(Ljava/lang/String;)Ljava/lang/StringBuilder;"), (5, .methodref 71 88), (0, .nameAndType 89 12), (0, u "toString"), (13, .methodref 8 104), (0, .nameAndType 105 106), (0, u "substring"), (0, u "(II)Ljava/lang/String;"), (11, u "()I"), (45, .methodref 8 165), (0, .nameAndType 166 118), (0, u "length"), (53, .string 221), (0, u "..."), (0, .string 223), (0, u "\""), (6, u "QUOTED_LENGTH"), (0, u "I")] 15

def k10m0 : Method := { name := "<init>", desc := "()V", sig := { parameters := [], returnType := none }, accessFlags := 2, code := none }
def k10c1 : Code := { maxStack := 4, maxLocals := 2, code := prog_21_method_10_code, exceptionTable := #[], attributes := #[] }
def k10m1 : Method := { name := "quote", desc := "(Ljava/lang/String;)Ljava/lang/String;", sig := { parameters := [(.object "java/lang/String")], returnType := some (.object "java/lang/String") }, accessFlags := 8, code := some k10c1 }
/-- com/example/atropos/atropos/io/CurveText -/
def k10 : Class := { plain "com/example/atropos/atropos/io/CurveText" (some 0) with
  accessFlags := 49
  interfaces := #[]
  cf := some (fileOf pool10 34 #[] #[{ accessFlags := 2, nameIndex := 5, descriptorIndex := 6, attributes := #[] }, { accessFlags := 8, nameIndex := 76, descriptorIndex := 77, attributes := #[] }] 49 2 #[] #[{ accessFlags := 26, nameIndex := 50, descriptorIndex := 51, attributes := #[] }, { accessFlags := 26, nameIndex := 230, descriptorIndex := 231, attributes := #[] }])
  fields := #[{ name := "SEPARATOR", type := (.object "java/util/regex/Pattern"), accessFlags := 26, slot := 0, constantValue := 0 }, { name := "QUOTED_LENGTH", type := .int, accessFlags := 26, slot := 1, constantValue := 0 }]
  methods := #[k10m0, k10m1]
  instanceTypes := #[]
  staticTypes := #[(.object "java/util/regex/Pattern"), .int]
  resolved := Array.replicate 247 none
  statics := none }

def pool11 : Array CpInfo := pool [(1, .class_ 2), (0, u "java/lang/Appendable"), (0, .class_ 4), (0, u "java/lang/Object")] 9

/-- java/lang/Appendable -/
def k11 : Class := { plain "java/lang/Appendable" (some 0) with
  accessFlags := 1537
  interfaces := #[]
  cf := some (fileOf pool11 1 #[] #[] 1537 3 #[] #[])
  fields := #[]
  methods := #[]
  instanceTypes := #[]
  staticTypes := #[]
  resolved := Array.replicate 14 none
  statics := none }

def pool12 : Array CpInfo := pool [(1, .class_ 2), (0, u "java/lang/String"), (0, .methodref 4 5), (0, .class_ 6), (0, .nameAndType 7 8), (0, u "java/lang/Object"), (0, u "<init>"), (0, u "()V"), (1, .class_ 12), (1, u "java/lang/AbstractStringBuilder"), (0, u "EMPTYVALUE"), (0, u "[B"), (0, .fieldref 10 16), (0, .nameAndType 17 14), (0, u "value"), (0, .fieldref 1 19), (0, .nameAndType 20 21), (0, u "COMPACT_STRINGS"), (0, u "Z"), (0, .fieldref 10 23), (0, .nameAndType 24 25), (0, u "coder"), (0, u "B"), (6, .methodref 1 33), (0, .nameAndType 34 35), (0, u "length"), (0, u "()I"), (3, .integer 2147483647), (0, .methodref 1 41), (0, .nameAndType 24 42), (0, u "()B"), (2, u "append"), (0, u "(Ljava/lang/String;)Ljava/lang/AbstractStringBuilder;"), (1, .class_ 49), (0, u "java/lang/CharSequence"), (19, u "(Ljava/lang/String;)V"), (5, u "maybeLatin1"), (3, .fieldref 10 80), (0, .nameAndType 81 82), (0, u "count"), (0, u "I"), (2, u "isLatin1"), (0, u "()Z"), (13, .methodref 10 101), (0, .nameAndType 102 103), (0, u "ensureCapacityInternal"), (0, u "(I)V"), (0, .methodref 10 105), (0, .nameAndType 106 107), (0, u "newCapacity"), (0, u "(I)I"), (0, .methodref 109 110), (0, .class_ 111), (0, .nameAndType 112 113), (0, u "java/util/Arrays"), (0, u "copyOf"), (0, u "([BI)[B"), (0, .methodref 115 116), (0, .class_ 117), (0, .nameAndType 118 119), (0, u "jdk/internal/util/ArraysSupport"), (0, u "newLength"), (0, u "(III)I"), (88, .methodref 10 209), (0, .nameAndType 210 211), (0, u "putStringAt"), (0, u "(ILjava/lang/String;)V"), (5, u "inflateIfNeededFor"), (2, .nameAndType 221 222), (0, u "getBytes"), (0, u "([BIB)V"), (174, .methodref 10 398), (0, .nameAndType 217 69), (0, .methodref 1 220), (3, u "()[B"), (40, .class_ 445), (0, u "java/lang/Appendable"), (106, u "getValue")] 56

def k12m0 : Method := { name := "<init>", desc := "()V", sig := { parameters := [], returnType := none }, accessFlags := 0, code := none }
def k12c1 : Code := { maxStack := 2, maxLocals := 2, code := jdk_68_method_2_code, exceptionTable := #[], attributes := #[] }
def k12m1 : Method := { name := "<init>", desc := "(I)V", sig := { parameters := [.int], returnType := none }, accessFlags := 0, code := some k12c1 }
def k12c2 : Code := { maxStack := 1, maxLocals := 1, code := jdk_68_method_6_code, exceptionTable := #[], attributes := #[] }
def k12m2 : Method := { name := "length", desc := "()I", sig := { parameters := [], returnType := some .int }, accessFlags := 1, code := some k12c2 }
def k12c3 : Code := { maxStack := 4, maxLocals := 3, code := jdk_68_method_9_code, exceptionTable := #[], attributes := #[] }
def k12m3 : Method := { name := "ensureCapacityInternal", desc := "(I)V", sig := { parameters := [.int], returnType := none }, accessFlags := 2, code := some k12c3 }
def k12c4 : Code := { maxStack := 5, maxLocals := 6, code := jdk_68_method_10_code, exceptionTable := #[], attributes := #[] }
def k12m4 : Method := { name := "newCapacity", desc := "(I)I", sig := { parameters := [.int], returnType := some .int }, accessFlags := 2, code := some k12c4 }
def k12c5 : Code := { maxStack := 3, maxLocals := 3, code := jdk_68_method_22_code, exceptionTable := #[], attributes := #[] }
def k12m5 : Method := { name := "append", desc := "(Ljava/lang/String;)Ljava/lang/AbstractStringBuilder;", sig := { parameters := [(.object "java/lang/String")], returnType := some (.object "java/lang/AbstractStringBuilder") }, accessFlags := 1, code := some k12c5 }
def k12c6 : Code := { maxStack := 1, maxLocals := 1, code := jdk_68_method_64_code, exceptionTable := #[], attributes := #[] }
def k12m6 : Method := { name := "getValue", desc := "()[B", sig := { parameters := [], returnType := some (.array .byte) }, accessFlags := 16, code := some k12c6 }
def k12c7 : Code := { maxStack := 1, maxLocals := 1, code := jdk_68_method_68_code, exceptionTable := #[], attributes := #[] }
def k12m7 : Method := { name := "isLatin1", desc := "()Z", sig := { parameters := [], returnType := some .boolean }, accessFlags := 16, code := some k12c7 }
def k12c8 : Code := { maxStack := 2, maxLocals := 2, code := jdk_68_method_71_code, exceptionTable := #[], attributes := #[] }
def k12m8 : Method := { name := "inflateIfNeededFor", desc := "(Ljava/lang/String;)V", sig := { parameters := [(.object "java/lang/String")], returnType := none }, accessFlags := 2, code := some k12c8 }
def k12c9 : Code := { maxStack := 4, maxLocals := 3, code := jdk_68_method_73_code, exceptionTable := #[], attributes := #[] }
def k12m9 : Method := { name := "putStringAt", desc := "(ILjava/lang/String;)V", sig := { parameters := [.int, (.object "java/lang/String")], returnType := none }, accessFlags := 2, code := some k12c9 }
/-- java/lang/AbstractStringBuilder -/
def k12 : Class := { plain "java/lang/AbstractStringBuilder" (some 0) with
  accessFlags := 1056
  interfaces := #[11, 5]
  cf := some (fileOf pool12 10 #[] #[{ accessFlags := 0, nameIndex := 7, descriptorIndex := 8, attributes := #[] }, { accessFlags := 0, nameIndex := 7, descriptorIndex := 103, attributes := #[] }, { accessFlags := 1, nameIndex := 34, descriptorIndex := 35, attributes := #[] }, { accessFlags := 2, nameIndex := 102, descriptorIndex := 103, attributes := #[] }, { accessFlags := 2, nameIndex := 106, descriptorIndex := 107, attributes := #[] }, { accessFlags := 1, nameIndex := 45, descriptorIndex := 46, attributes := #[] }, { accessFlags := 16, nameIndex := 552, descriptorIndex := 403, attributes := #[] }, { accessFlags := 16, nameIndex := 85, descriptorIndex := 86, attributes := #[] }, { accessFlags := 2, nameIndex := 217, descriptorIndex := 69, attributes := #[] }, { accessFlags := 2, nameIndex := 210, descriptorIndex := 211, attributes := #[] }] 1056 4 #[444, 48] #[{ accessFlags := 0, nameIndex := 17, descriptorIndex := 14, attributes := #[] }, { accessFlags := 0, nameIndex := 24, descriptorIndex := 25, attributes := #[] }, { accessFlags := 0, nameIndex := 75, descriptorIndex := 21, attributes := #[] }, { accessFlags := 0, nameIndex := 81, descriptorIndex := 82, attributes := #[] }, { accessFlags := 26, nameIndex := 13, descriptorIndex := 14, attributes := #[] }])
  fields := #[{ name := "value", type := (.array .byte), accessFlags := 0, slot := 0, constantValue := 0 }, { name := "coder", type := .byte, accessFlags := 0, slot := 1, constantValue := 0 }, { name := "maybeLatin1", type := .boolean, accessFlags := 0, slot := 2, constantValue := 0 }, { name := "count", type := .int, accessFlags := 0, slot := 3, constantValue := 0 }, { name := "EMPTYVALUE", type := (.array .byte), accessFlags := 26, slot := 0, constantValue := 0 }]
  methods := #[k12m0, k12m1, k12m2, k12m3, k12m4, k12m5, k12m6, k12m7, k12m8, k12m9]
  instanceTypes := #[(.array .byte), .byte, .boolean, .int]
  staticTypes := #[(.array .byte)]
  resolved := Array.replicate 609 none
  statics := none }

def pool13 : Array CpInfo := pool [(1, .methodref 2 3), (0, .class_ 4), (0, .nameAndType 5 6), (0, u "java/lang/AbstractStringBuilder"), (0, u "<init>"), (0, u "(I)V"), (11, .class_ 20), (1, u "java/lang/String"), (3, .class_ 26), (1, u "java/lang/StringBuilder"), (0, u "append"), (0, u "(Ljava/lang/String;)Ljava/lang/StringBuilder;"), (0, .methodref 2 30), (0, .nameAndType 27 31), (0, u "(Ljava/lang/String;)Ljava/lang/AbstractStringBuilder;"), (105, .methodref 18 138), (0, .nameAndType 5 139), (0, u "(Ljava/lang/StringBuilder;)V"), (5, u "()V"), (10, u "()I"), (186, .methodref 2 344), (0, .nameAndType 345 156), (0, u "length"), (3, .class_ 350), (0, u "java/lang/Appendable"), (0, .class_ 352), (0, u "java/io/Serializable"), (0, .class_ 354), (0, u "java/lang/Comparable"), (0, .class_ 356), (0, u "java/lang/CharSequence"), (0, u "serialVersionUID"), (0, u "J"), (40, u "toString"), (0, u "()Ljava/lang/String;")] 21

def k13c0 : Code := { maxStack := 2, maxLocals := 1, code := jdk_67_method_1_code, exceptionTable := #[], attributes := #[] }
def k13m0 : Method := { name := "<init>", desc := "()V", sig := { parameters := [], returnType := none }, accessFlags := 1, code := some k13c0 }
def k13c1 : Code := { maxStack := 2, maxLocals := 2, code := jdk_67_method_7_code, exceptionTable := #[], attributes := #[] }
def k13m1 : Method := { name := "append", desc := "(Ljava/lang/String;)Ljava/lang/StringBuilder;", sig := { parameters := [(.object "java/lang/String")], returnType := some (.object "java/lang/StringBuilder") }, accessFlags := 1, code := some k13c1 }
def k13c2 : Code := { maxStack := 3, maxLocals := 1, code := jdk_67_method_42_code, exceptionTable := #[], attributes := #[] }
def k13m2 : Method := { name := "toString", desc := "()Ljava/lang/String;", sig := { parameters := [], returnType := some (.object "java/lang/String") }, accessFlags := 1, code := some k13c2 }
def k13c3 : Code := { maxStack := 1, maxLocals := 1, code := jdk_67_method_93_code, exceptionTable := #[], attributes := #[] }
def k13m3 : Method := { name := "length", desc := "()I", sig := { parameters := [], returnType := some .int }, accessFlags := 4161, code := some k13c3 }
/-- java/lang/StringBuilder -/
def k13 : Class := { plain "java/lang/StringBuilder" (some 12) with
  accessFlags := 49
  interfaces := #[11, 3, 4, 5]
  cf := some (fileOf pool13 24 #[] #[{ accessFlags := 1, nameIndex := 5, descriptorIndex := 145, attributes := #[] }, { accessFlags := 1, nameIndex := 27, descriptorIndex := 28, attributes := #[] }, { accessFlags := 1, nameIndex := 399, descriptorIndex := 400, attributes := #[] }, { accessFlags := 4161, nameIndex := 345, descriptorIndex := 156, attributes := #[] }] 49 2 #[349, 351, 353, 355] #[{ accessFlags := 24, nameIndex := 357, descriptorIndex := 358, attributes := #[] }])
  fields := #[{ name := "serialVersionUID", type := .long, accessFlags := 24, slot := 0, constantValue := 0 }]
  methods := #[k13m0, k13m1, k13m2, k13m3]
  instanceTypes := #[(.array .byte), .byte, .boolean, .int]
  staticTypes := #[.long]
  resolved := Array.replicate 422 none
  statics := none }

def pool14 : Array CpInfo := pool [(2, .class_ 4), (1, u "java/lang/Object"), (0, u "<init>"), (0, u "()V"), (1, .class_ 10), (1, u "java/lang/System"), (0, u "allowSecurityManager"), (0, u "I"), (16, u "cons"), (0, u "Ljava/io/Console;"), (77, .class_ 110), (1, u "java/lang/System$CallersHolder"), (43, u "initialErrStream"), (0, u "Ljava/io/PrintStream;"), (19, u "security"), (0, u "Ljava/lang/SecurityManager;"), (31, .class_ 209), (0, u "java/lang/System$1"), (7, u "props"), (0, u "Ljava/util/Properties;"), (2, u "lineSeparator"), (0, u "Ljava/lang/String;"), (96, .class_ 321), (1, u "java/lang/System$LoggerFinder"), (5, .class_ 328), (0, u "java/lang/System$Logger"), (67, u "err"), (2, u "out"), (91, u "notSupportedJnuEncoding"), (15, u "in"), (17, u "initialIn"), (0, u "Ljava/io/InputStream;"), (35, u "bootLayer"), (0, u "Ljava/lang/ModuleLayer;"), (99, .class_ 664), (0, u "java/lang/System$2"), (9, u "NEVER"), (2, u "MAYBE"), (49, u "arraycopy"), (0, u "(Ljava/lang/Object;ILjava/lang/Object;II)V"), (72, .class_ 802), (0, u "java/lang/System$Logger$Level")] 31

def k14m0 : Method := { name := "<init>", desc := "()V", sig := { parameters := [], returnType := none }, accessFlags := 2, code := none }
def k14m1 : Method := { name := "arraycopy", desc := "(Ljava/lang/Object;ILjava/lang/Object;II)V", sig := { parameters := [(.object "java/lang/Object"), .int, (.object "java/lang/Object"), .int, .int], returnType := none }, accessFlags := 265, code := none }
/-- java/lang/System -/
def k14 : Class := { plain "java/lang/System" (some 0) with
  accessFlags := 49
  interfaces := #[]
  cf := some (fileOf pool14 8 #[.nestMembers #[319, 327, 801, 108, 663, 208]] #[{ accessFlags := 2, nameIndex := 5, descriptorIndex := 6, attributes := #[] }, { accessFlags := 265, nameIndex := 727, descriptorIndex := 728, attributes := #[] }] 49 2 #[] #[{ accessFlags := 25, nameIndex := 507, descriptorIndex := 526, attributes := #[] }, { accessFlags := 25, nameIndex := 399, descriptorIndex := 155, attributes := #[] }, { accessFlags := 25, nameIndex := 396, descriptorIndex := 155, attributes := #[] }, { accessFlags := 10, nameIndex := 525, descriptorIndex := 526, attributes := #[] }, { accessFlags := 26, nameIndex := 674, descriptorIndex := 12, attributes := #[] }, { accessFlags := 26, nameIndex := 677, descriptorIndex := 12, attributes := #[] }, { accessFlags := 10, nameIndex := 11, descriptorIndex := 12, attributes := #[] }, { accessFlags := 74, nameIndex := 175, descriptorIndex := 176, attributes := #[] }, { accessFlags := 10, nameIndex := 491, descriptorIndex := 222, attributes := #[] }, { accessFlags := 74, nameIndex := 29, descriptorIndex := 30, attributes := #[] }, { accessFlags := 74, nameIndex := 154, descriptorIndex := 155, attributes := #[] }, { accessFlags := 10, nameIndex := 217, descriptorIndex := 218, attributes := #[] }, { accessFlags := 10, nameIndex := 221, descriptorIndex := 222, attributes := #[] }, { accessFlags := 8, nameIndex := 562, descriptorIndex := 563, attributes := #[] }])
  fields := #[{ name := "in", type := (.object "java/io/InputStream"), accessFlags := 25, slot := 0, constantValue := 0 }, { name := "out", type := (.object "java/io/PrintStream"), accessFlags := 25, slot := 1, constantValue := 0 }, { name := "err", type := (.object "java/io/PrintStream"), accessFlags := 25, slot := 2, constantValue := 0 }, { name := "initialIn", type := (.object "java/io/InputStream"), accessFlags := 10, slot := 3, constantValue := 0 }, { name := "NEVER", type := .int, accessFlags := 26, slot := 4, constantValue := 0 }, { name := "MAYBE", type := .int, accessFlags := 26, slot := 5, constantValue := 0 }, { name := "allowSecurityManager", type := .int, accessFlags := 10, slot := 6, constantValue := 0 }, { name := "security", type := (.object "java/lang/SecurityManager"), accessFlags := 74, slot := 7, constantValue := 0 }, { name := "notSupportedJnuEncoding", type := (.object "java/lang/String"), accessFlags := 10, slot := 8, constantValue := 0 }, { name := "cons", type := (.object "java/io/Console"), accessFlags := 74, slot := 9, constantValue := 0 }, { name := "initialErrStream", type := (.object "java/io/PrintStream"), accessFlags := 74, slot := 10, constantValue := 0 }, { name := "props", type := (.object "java/util/Properties"), accessFlags := 10, slot := 11, constantValue := 0 }, { name := "lineSeparator", type := (.object "java/lang/String"), accessFlags := 10, slot := 12, constantValue := 0 }, { name := "bootLayer", type := (.object "java/lang/ModuleLayer"), accessFlags := 8, slot := 13, constantValue := 0 }]
  methods := #[k14m0, k14m1]
  instanceTypes := #[]
  staticTypes := #[(.object "java/io/InputStream"), (.object "java/io/PrintStream"), (.object "java/io/PrintStream"), (.object "java/io/InputStream"), .int, .int, .int, (.object "java/lang/SecurityManager"), (.object "java/lang/String"), (.object "java/io/Console"), (.object "java/io/PrintStream"), (.object "java/util/Properties"), (.object "java/lang/String"), (.object "java/lang/ModuleLayer")]
  resolved := Array.replicate 834 none
  statics := none }

def pool15 : Array CpInfo := pool [(2, .class_ 4), (1, u "java/lang/Object"), (0, u "<init>"), (0, u "()V"), (7, .class_ 16), (1, u "java/util/Arrays"), (57, .class_ 76), (1, u "java/util/Arrays$NaturalOrder"), (36, .class_ 115), (1, u "java/util/Arrays$LegacyMergeSort"), (1, u "Z"), (21, u "copyOfRange"), (10, .methodref 151 152), (0, .class_ 153), (0, .nameAndType 154 155), (0, u "java/lang/System"), (0, u "arraycopy"), (0, u "(Ljava/lang/Object;ILjava/lang/Object;II)V"), (146, u "copyOf"), (1, .methodref 305 306), (0, .class_ 307), (0, .nameAndType 308 309), (0, u "java/lang/Math"), (0, u "min"), (0, u "(II)I"), (29, .methodref 14 340), (0, .nameAndType 341 342), (0, u "copyOfRangeByte"), (0, u "([BII)[B"), (0, .methodref 14 344), (0, .nameAndType 345 346), (0, u "checkLength"), (0, u "(II)V"), (28, .class_ 376), (0, u "java/util/Arrays$ArrayList"), (68, u "$assertionsDisabled"), (269, u "MIN_ARRAY_SORT_GRAN"), (0, u "I"), (2, u "INSERTIONSORT_THRESHOLD"), (149, u "([BI)[B"), (105, .class_ 976), (0, u "java/util/Arrays$ArrayItr")] 52

def k15m0 : Method := { name := "<init>", desc := "()V", sig := { parameters := [], returnType := none }, accessFlags := 2, code := none }
def k15c1 : Code := { maxStack := 6, maxLocals := 3, code := jdk_65_method_121_code, exceptionTable := #[], attributes := #[] }
def k15m1 : Method := { name := "copyOf", desc := "([BI)[B", sig := { parameters := [(.array .byte), .int], returnType := some (.array .byte) }, accessFlags := 9, code := some k15c1 }
def k15c2 : Code := { maxStack := 4, maxLocals := 2, code := jdk_65_method_131_code, exceptionTable := #[], attributes := #[] }
def k15m2 : Method := { name := "checkLength", desc := "(II)V", sig := { parameters := [.int, .int], returnType := none }, accessFlags := 10, code := some k15c2 }
def k15c3 : Code := { maxStack := 3, maxLocals := 3, code := jdk_65_method_132_code, exceptionTable := #[], attributes := #[] }
def k15m3 : Method := { name := "copyOfRange", desc := "([BII)[B", sig := { parameters := [(.array .byte), .int, .int], returnType := some (.array .byte) }, accessFlags := 9, code := some k15c3 }
def k15c4 : Code := { maxStack := 6, maxLocals := 5, code := jdk_65_method_133_code, exceptionTable := #[], attributes := #[] }
def k15m4 : Method := { name := "copyOfRangeByte", desc := "([BII)[B", sig := { parameters := [(.array .byte), .int, .int], returnType := some (.array .byte) }, accessFlags := 10, code := some k15c4 }
/-- java/util/Arrays -/
def k15 : Class := { plain "java/util/Arrays" (some 0) with
  accessFlags := 49
  interfaces := #[]
  cf := some (fileOf pool15 14 #[.nestMembers #[975, 375, 113, 74]] #[{ accessFlags := 2, nameIndex := 5, descriptorIndex := 6, attributes := #[] }, { accessFlags := 9, nameIndex := 302, descriptorIndex := 869, attributes := #[] }, { accessFlags := 10, nameIndex := 345, descriptorIndex := 346, attributes := #[] }, { accessFlags := 9, nameIndex := 139, descriptorIndex := 342, attributes := #[] }, { accessFlags := 10, nameIndex := 341, descriptorIndex := 342, attributes := #[] }] 49 2 #[] #[{ accessFlags := 26, nameIndex := 715, descriptorIndex := 716, attributes := #[] }, { accessFlags := 26, nameIndex := 719, descriptorIndex := 716, attributes := #[] }, { accessFlags := 4120, nameIndex := 445, descriptorIndex := 117, attributes := #[] }])
  fields := #[{ name := "MIN_ARRAY_SORT_GRAN", type := .int, accessFlags := 26, slot := 0, constantValue := 0 }, { name := "INSERTIONSORT_THRESHOLD", type := .int, accessFlags := 26, slot := 1, constantValue := 0 }, { name := "$assertionsDisabled", type := .boolean, accessFlags := 4120, slot := 2, constantValue := 0 }]
  methods := #[k15m0, k15m1, k15m2, k15m3, k15m4]
  instanceTypes := #[]
  staticTypes := #[.int, .int, .boolean]
  resolved := Array.replicate 1029 none
  statics := none }

def pool16 : Array CpInfo := pool [(1, .class_ 2), (0, u "java/lang/String"), (1, .class_ 6), (1, u "java/lang/Object"), (0, u "<init>"), (0, u "()V"), (5, .class_ 16), (1, u "java/lang/StringLatin1"), (95, .methodref 1 113), (0, .nameAndType 7 114), (0, u "([BB)V"), (6, u "$assertionsDisabled"), (0, u "Z"), (8, .class_ 133), (1, u "java/util/Arrays"), (62, u "newString"), (0, u "([BII)Ljava/lang/String;"), (23, .class_ 223), (1, u "java/lang/StringLatin1$LinesSpliterator"), (8, .methodref 131 233), (0, .nameAndType 234 235), (0, u "copyOfRange"), (0, u "([BII)[B"), (45, u "equals"), (0, u "([B[B)Z"), (107, .class_ 391), (0, u "java/lang/StringLatin1$CharsSpliterator")] 3

def k16m0 : Method := { name := "<init>", desc := "()V", sig := { parameters := [], returnType := none }, accessFlags := 0, code := none }
def k16c1 : Code := { maxStack := 3, maxLocals := 3, code := jdk_43_method_13_code, exceptionTable := #[], attributes := #[] }
def k16m1 : Method := { name := "equals", desc := "([B[B)Z", sig := { parameters := [(.array .byte), (.array .byte)], returnType := some .boolean }, accessFlags := 9, code := some k16c1 }
def k16c2 : Code := { maxStack := 6, maxLocals := 3, code := jdk_43_method_47_code, exceptionTable := #[], attributes := #[] }
def k16m2 : Method := { name := "newString", desc := "([BII)Ljava/lang/String;", sig := { parameters := [(.array .byte), .int, .int], returnType := some (.object "java/lang/String") }, accessFlags := 9, code := some k16c2 }
/-- java/lang/StringLatin1 -/
def k16 : Class := { plain "java/lang/StringLatin1" (some 0) with
  accessFlags := 48
  interfaces := #[]
  cf := some (fileOf pool16 14 #[.nestMembers #[390, 221]] #[{ accessFlags := 0, nameIndex := 7, descriptorIndex := 8, attributes := #[] }, { accessFlags := 9, nameIndex := 281, descriptorIndex := 282, attributes := #[] }, { accessFlags := 9, nameIndex := 196, descriptorIndex := 197, attributes := #[] }] 48 4 #[] #[{ accessFlags := 4120, nameIndex := 121, descriptorIndex := 122, attributes := #[] }])
  fields := #[{ name := "$assertionsDisabled", type := .boolean, accessFlags := 4120, slot := 0, constantValue := 0 }]
  methods := #[k16m0, k16m1, k16m2]
  instanceTypes := #[]
  staticTypes := #[.boolean]
  resolved := Array.replicate 395 none
  statics := none }

def pool17 : Array CpInfo := pool [(9, u "<init>"), (6, .class_ 18), (1, u "java/lang/Object"), (0, u "()V"), (1, .class_ 23), (1, u "jdk/internal/util/ArraysSupport"), (0, u "LOG2_ARRAY_LONG_INDEX_SCALE"), (0, u "I"), (2, u "U"), (0, u "Ljdk/internal/misc/Unsafe;"), (8, u "BIG_ENDIAN"), (0, u "Z"), (8, u "LOG2_BYTE_BIT_SIZE"), (4, u "LOG2_ARRAY_INT_INDEX_SCALE"), (54, u "JLA"), (0, u "Ljdk/internal/access/JavaLangAccess;"), (11, u "LOG2_ARRAY_BOOLEAN_INDEX_SCALE"), (9, u "LOG2_ARRAY_BYTE_INDEX_SCALE"), (5, u "LOG2_ARRAY_CHAR_INDEX_SCALE"), (5, u "LOG2_ARRAY_SHORT_INDEX_SCALE"), (18, u "LOG2_ARRAY_FLOAT_INDEX_SCALE"), (24, u "LOG2_ARRAY_DOUBLE_INDEX_SCALE"), (6, .methodref 195 196), (0, .class_ 197), (0, .nameAndType 198 199), (0, u "java/lang/Math"), (0, u "max"), (0, u "(II)I"), (0, .integer 2147483639), (76, u "T_BOOLEAN"), (2, u "T_CHAR"), (1, u "T_FLOAT"), (1, u "T_DOUBLE"), (1, u "T_BYTE"), (1, u "T_SHORT"), (1, u "T_INT"), (1, u "T_LONG"), (1, u "SOFT_MAX_ARRAY_LENGTH"), (56, u "newLength"), (0, u "(III)I")] 25

def k17m0 : Method := { name := "<init>", desc := "()V", sig := { parameters := [], returnType := none }, accessFlags := 2, code := none }
def k17c1 : Code := { maxStack := 3, maxLocals := 4, code := jdk_48_method_27_code, exceptionTable := #[], attributes := #[] }
def k17m1 : Method := { name := "newLength", desc := "(III)I", sig := { parameters := [.int, .int, .int], returnType := some .int }, accessFlags := 9, code := some k17c1 }
/-- jdk/internal/util/ArraysSupport -/
def k17 : Class := { plain "jdk/internal/util/ArraysSupport" (some 0) with
  accessFlags := 33
  interfaces := #[]
  cf := some (fileOf pool17 21 #[] #[{ accessFlags := 2, nameIndex := 9, descriptorIndex := 19, attributes := #[] }, { accessFlags := 9, nameIndex := 351, descriptorIndex := 352, attributes := #[] }] 33 16 #[] #[{ accessFlags := 24, nameIndex := 28, descriptorIndex := 29, attributes := #[] }, { accessFlags := 26, nameIndex := 38, descriptorIndex := 39, attributes := #[] }, { accessFlags := 25, nameIndex := 121, descriptorIndex := 25, attributes := #[] }, { accessFlags := 25, nameIndex := 131, descriptorIndex := 25, attributes := #[] }, { accessFlags := 25, nameIndex := 137, descriptorIndex := 25, attributes := #[] }, { accessFlags := 25, nameIndex := 143, descriptorIndex := 25, attributes := #[] }, { accessFlags := 25, nameIndex := 53, descriptorIndex := 25, attributes := #[] }, { accessFlags := 25, nameIndex := 24, descriptorIndex := 25, attributes := #[] }, { accessFlags := 25, nameIndex := 162, descriptorIndex := 25, attributes := #[] }, { accessFlags := 25, nameIndex := 187, descriptorIndex := 25, attributes := #[] }, { accessFlags := 26, nameIndex := 48, descriptorIndex := 25, attributes := #[] }, { accessFlags := 25, nameIndex := 277, descriptorIndex := 25, attributes := #[] }, { accessFlags := 25, nameIndex := 280, descriptorIndex := 25, attributes := #[] }, { accessFlags := 25, nameIndex := 282, descriptorIndex := 25, attributes := #[] }, { accessFlags := 25, nameIndex := 284, descriptorIndex := 25, attributes := #[] }, { accessFlags := 25, nameIndex := 286, descriptorIndex := 25, attributes := #[] }, { accessFlags := 25, nameIndex := 288, descriptorIndex := 25, attributes := #[] }, { accessFlags := 25, nameIndex := 290, descriptorIndex := 25, attributes := #[] }, { accessFlags := 25, nameIndex := 292, descriptorIndex := 25, attributes := #[] }, { accessFlags := 26, nameIndex := 108, descriptorIndex := 109, attributes := #[] }, { accessFlags := 25, nameIndex := 294, descriptorIndex := 25, attributes := #[] }])
  fields := #[{ name := "U", type := (.object "jdk/internal/misc/Unsafe"), accessFlags := 24, slot := 0, constantValue := 0 }, { name := "BIG_ENDIAN", type := .boolean, accessFlags := 26, slot := 1, constantValue := 0 }, { name := "LOG2_ARRAY_BOOLEAN_INDEX_SCALE", type := .int, accessFlags := 25, slot := 2, constantValue := 0 }, { name := "LOG2_ARRAY_BYTE_INDEX_SCALE", type := .int, accessFlags := 25, slot := 3, constantValue := 0 }, { name := "LOG2_ARRAY_CHAR_INDEX_SCALE", type := .int, accessFlags := 25, slot := 4, constantValue := 0 }, { name := "LOG2_ARRAY_SHORT_INDEX_SCALE", type := .int, accessFlags := 25, slot := 5, constantValue := 0 }, { name := "LOG2_ARRAY_INT_INDEX_SCALE", type := .int, accessFlags := 25, slot := 6, constantValue := 0 }, { name := "LOG2_ARRAY_LONG_INDEX_SCALE", type := .int, accessFlags := 25, slot := 7, constantValue := 0 }, { name := "LOG2_ARRAY_FLOAT_INDEX_SCALE", type := .int, accessFlags := 25, slot := 8, constantValue := 0 }, { name := "LOG2_ARRAY_DOUBLE_INDEX_SCALE", type := .int, accessFlags := 25, slot := 9, constantValue := 0 }, { name := "LOG2_BYTE_BIT_SIZE", type := .int, accessFlags := 26, slot := 10, constantValue := 0 }, { name := "T_BOOLEAN", type := .int, accessFlags := 25, slot := 11, constantValue := 0 }, { name := "T_CHAR", type := .int, accessFlags := 25, slot := 12, constantValue := 0 }, { name := "T_FLOAT", type := .int, accessFlags := 25, slot := 13, constantValue := 0 }, { name := "T_DOUBLE", type := .int, accessFlags := 25, slot := 14, constantValue := 0 }, { name := "T_BYTE", type := .int, accessFlags := 25, slot := 15, constantValue := 0 }, { name := "T_SHORT", type := .int, accessFlags := 25, slot := 16, constantValue := 0 }, { name := "T_INT", type := .int, accessFlags := 25, slot := 17, constantValue := 0 }, { name := "T_LONG", type := .int, accessFlags := 25, slot := 18, constantValue := 0 }, { name := "JLA", type := (.object "jdk/internal/access/JavaLangAccess"), accessFlags := 26, slot := 19, constantValue := 0 }, { name := "SOFT_MAX_ARRAY_LENGTH", type := .int, accessFlags := 25, slot := 20, constantValue := 0 }]
  methods := #[k17m0, k17m1]
  instanceTypes := #[]
  staticTypes := #[(.object "jdk/internal/misc/Unsafe"), .boolean, .int, .int, .int, .int, .int, .int, .int, .int, .int, .int, .int, .int, .int, .int, .int, .int, .int, (.object "jdk/internal/access/JavaLangAccess"), .int]
  resolved := Array.replicate 378 none
  statics := none }

def pool18 : Array CpInfo := pool [(2, .class_ 4), (1, u "java/lang/Object"), (0, u "<init>"), (0, u "()V"), (17, .class_ 26), (1, u "jdk/internal/util/Preconditions"), (20, u "checkFromToIndex"), (7, .class_ 56), (0, u "jdk/internal/util/Preconditions$4"), (57, .class_ 115), (0, u "jdk/internal/util/Preconditions$1"), (7, u "SIOOBE_FORMATTER"), (0, u "Ljava/util/function/BiFunction;"), (0, .class_ 126), (0, u "jdk/internal/util/Preconditions$2"), (3, u "AIOOBE_FORMATTER"), (0, .class_ 132), (0, u "jdk/internal/util/Preconditions$3"), (3, u "IOOBE_FORMATTER"), (46, u "(IIILjava/util/function/BiFunction;)I")] 10

def k18m0 : Method := { name := "<init>", desc := "()V", sig := { parameters := [], returnType := none }, accessFlags := 1, code := none }
def k18c1 : Code := { maxStack := 4, maxLocals := 4, code := jdk_41_method_12_code, exceptionTable := #[], attributes := #[] }
def k18m1 : Method := { name := "checkFromToIndex", desc := "(IIILjava/util/function/BiFunction;)I", sig := { parameters := [.int, .int, .int, (.object "java/util/function/BiFunction")], returnType := some .int }, accessFlags := 9, code := some k18c1 }
/-- jdk/internal/util/Preconditions -/
def k18 : Class := { plain "jdk/internal/util/Preconditions" (some 0) with
  accessFlags := 33
  interfaces := #[]
  cf := some (fileOf pool18 24 #[.nestMembers #[55, 131, 125, 114]] #[{ accessFlags := 1, nameIndex := 5, descriptorIndex := 6, attributes := #[] }, { accessFlags := 9, nameIndex := 47, descriptorIndex := 183, attributes := #[] }] 33 2 #[] #[{ accessFlags := 25, nameIndex := 123, descriptorIndex := 124, attributes := #[] }, { accessFlags := 25, nameIndex := 130, descriptorIndex := 124, attributes := #[] }, { accessFlags := 25, nameIndex := 136, descriptorIndex := 124, attributes := #[] }])
  fields := #[{ name := "SIOOBE_FORMATTER", type := (.object "java/util/function/BiFunction"), accessFlags := 25, slot := 0, constantValue := 0 }, { name := "AIOOBE_FORMATTER", type := (.object "java/util/function/BiFunction"), accessFlags := 25, slot := 1, constantValue := 0 }, { name := "IOOBE_FORMATTER", type := (.object "java/util/function/BiFunction"), accessFlags := 25, slot := 2, constantValue := 0 }]
  methods := #[k18m0, k18m1]
  instanceTypes := #[]
  staticTypes := #[(.object "java/util/function/BiFunction"), (.object "java/util/function/BiFunction"), (.object "java/util/function/BiFunction")]
  resolved := Array.replicate 194 none
  statics := some 1 }

def pool19 : Array CpInfo := pool [(1, u "java/lang/Cloneable"), (0, .class_ 1), (0, u "java/lang/Object"), (0, .class_ 3)] 3

/-- java/lang/Cloneable -/
def k19 : Class := { plain "java/lang/Cloneable" (some 0) with
  accessFlags := 1537
  interfaces := #[]
  cf := some (fileOf pool19 2 #[] #[] 1537 4 #[] #[])
  fields := #[]
  methods := #[]
  instanceTypes := #[]
  staticTypes := #[]
  resolved := Array.replicate 8 none
  statics := none }

/-- the primitive byte -/
def k20 : Class := { plain "byte" none with kind := .primitive 'B', accessFlags := 0x411 }
/-- [B -/
def k21 : Class := { plain "[B" (some 0) with kind := .array 20 .byte, interfaces := #[19, 3], accessFlags := 1041 }

/-- the primitive char -/
def k22 : Class := { plain "char" none with kind := .primitive 'C', accessFlags := 0x411 }
/-- [C -/
def k23 : Class := { plain "[C" (some 0) with kind := .array 22 .char, interfaces := #[19, 3], accessFlags := 1041 }

/-- the primitive int -/
def k24 : Class := { plain "int" none with kind := .primitive 'I', accessFlags := 0x411 }
/-- [I -/
def k25 : Class := { plain "[I" (some 0) with kind := .array 24 .int, interfaces := #[19, 3], accessFlags := 1041 }

def heap : Heap := #[{ cls := 8, slots := #[.long 0, .int 1, .null, .int 0, .null, .int 0, .int 0], vm := .statics 8 },
  { cls := 18, slots := #[.null, .null, .null], vm := .statics 18 }]
def classes : Array Class := #[k0, k1, k2, k3, k4, k5, k6, k7, k8, k9, k10, k11, k12, k13, k14, k15, k16, k17, k18, k19, k20, k21, k22, k23, k24, k25]
def interned : List (Array UInt16 × Addr) := []
def slotsUsed : Nat := 10
def theMethod : MethodId := ⟨1, 1⟩
def args0 : Array Value := #[.int 5, .int 5, .int 5, .int 5, .int 5, .int 5]
def aboutOver (below : List Frame) : State where
  vm := { classes := classes, interned := interned.toArray }
  heap := heap
  slotsUsed := slotsUsed
  threads := #[{ frames := .invoking theMethod args0 :: below }]
def below0 : List Frame := [.native { method := ⟨0, 0⟩, args := #[] }]
def about1 : State := aboutOver below0
def p0 : Program := .bare "" "" ""
def e0 : Env := launch0.env 0 0 0
theorem w_frames : about1.frames = Frame.invoking theMethod args0 :: below0 := rfl
set_option maxRecDepth 65536 in
theorem w_args : argsFit about1.vm theMethod args0 = true := by decide +kernel
set_option maxRecDepth 65536 in
theorem w_heap : heapFits about1 = true := by decide +kernel
set_option maxRecDepth 65536 in
theorem w_runnable : about1.curStatus? = some .runnable := by decide +kernel
set_option maxRecDepth 65536 in
theorem w_alone : about1.alone = true := by decide +kernel
set_option maxRecDepth 65536 in
theorem w_named : about1.methodNamed? x = some theMethod := by decide +kernel
set_option maxRecDepth 65536 in
theorem w_hears : about1.hears theMethod below0 = true := by decide +kernel
set_option maxRecDepth 65536 in
theorem w_ripe : about1.ripe theMethod args0 below0 = true := by decide +kernel
theorem w_running : about1.status = .running := rfl
set_option maxRecDepth 65536 in
theorem w_room : about1.hasRoom e0.platform room_1 = true :=
  launch0.hasRoom_least _ room_1 (by decide +kernel) (by decide +kernel) (by decide +kernel) (by decide +kernel) (by decide +kernel) (by decide +kernel)
theorem allAtoms_all (ts : List Jvm.Cond) (a : Array Jvm.Value) (st : Jvm.State) : (allAtoms ts).before a st = ts.all (fun c => c.before a st) := by
  induction ts with
  | nil => rfl
  | cons c t ih =>
    show (Jvm.Cond.and c (allAtoms t)).before a st = _
    rw [Jvm.Cond.before_and, ih, List.all_cons]
def words1 : List Jvm.Cond := Jvm.Cond.code x code maxLocals ret :: tables_1
/-- a 'code' word, met by the world's own term for the bytes: nothing is compared byte by byte -/
theorem code_word {y : MethodName} {bytes : ByteArray} {mx : Nat} {rt : Option FieldType} {a : Array Value} {s : State} {m : MethodId} {meth : Method} {c : Code} (h1 : s.methodNamed? y = some m) (h2 : s.vm.method? m = some meth) (h3 : meth.code = some c) (h4 : c.code = bytes)
    (h5 : (c.maxLocals == mx && c.exceptionTable.isEmpty && decide (c.maxStack ≤ mostOperands) && decide (meth.sig.returnType = rt) && !meth.locks && decide (parseMethodDescriptor y.desc = some meth.sig)) = true) : (Jvm.Cond.code y bytes mx rt).before a s = true := by
  simp only [Bool.and_eq_true, beq_iff_eq, Bool.not_eq_true', decide_eq_true_eq] at h5
  obtain ⟨⟨⟨⟨⟨g1, g2⟩, g3⟩, g4⟩, g5⟩, g6⟩ := h5
  simp [Cond.before, Cond.holds, Cond.value, h1, h2, h3, h4, g1, g2, g3, g4, g5, g6]
def isCode : Jvm.Cond → Bool
  | .code _ _ _ _ => true
  | _ => false
theorem all_split {L : List Jvm.Cond} {P : Jvm.Cond → Bool} (h1 : L.all (fun c => isCode c || P c) = true) (h2 : ∀ c ∈ L.filter isCode, P c = true) : L.all P = true := by
  refine List.all_eq_true.mpr fun c hc => ?_
  have h := List.all_eq_true.mp h1 c hc
  rcases Bool.eq_false_or_eq_true (isCode c) with hi | hi
  · exact h2 c (List.mem_filter.mpr ⟨hc, hi⟩)
  · simpa [hi] using h
set_option maxRecDepth 65536 in
theorem w_c0 : (Jvm.Cond.code x code maxLocals ret).before args0 about1 = true := code_word (m := ⟨1, 1⟩) (meth := k1m1) (c := k1c1) (by decide +kernel) rfl rfl rfl (by decide +kernel)
set_option maxRecDepth 65536 in
theorem w_c1 : (Jvm.Cond.code ({ cls := "com/example/atropos/atropos/io/CurveTextQuotePinLaw", name := "put", desc := "([CII)V" } : Jvm.MethodName) method_3_code (3 : Nat) (Option.none : Option Jvm.ClassFile.FieldType)).before args0 about1 = true := code_word (m := ⟨1, 2⟩) (meth := k1m2) (c := k1c2) (by decide +kernel) rfl rfl rfl (by decide +kernel)
set_option maxRecDepth 65536 in
theorem w_c2 : (Jvm.Cond.code ({ cls := "java/lang/Math", name := "min", desc := "(II)I" } : Jvm.MethodName) jdk_29_method_69_code (2 : Nat) (Option.some Jvm.ClassFile.FieldType.int)).before args0 about1 = true := code_word (m := ⟨2, 2⟩) (meth := k2m2) (c := k2c2) (by decide +kernel) rfl rfl rfl (by decide +kernel)
set_option maxRecDepth 65536 in
theorem w_c3 : (Jvm.Cond.code ({ cls := "com/example/atropos/atropos/io/CurveTextQuotePinLaw", name := "copy", desc := "([C[CII)V" } : Jvm.MethodName) method_4_code (4 : Nat) (Option.none : Option Jvm.ClassFile.FieldType)).before args0 about1 = true := code_word (m := ⟨1, 3⟩) (meth := k1m3) (c := k1c3) (by decide +kernel) rfl rfl rfl (by decide +kernel)
set_option maxRecDepth 65536 in
theorem w_c4 : (Jvm.Cond.code ({ cls := "java/lang/String", name := "<init>", desc := "([C)V" } : Jvm.MethodName) jdk_42_method_3_code (2 : Nat) (Option.none : Option Jvm.ClassFile.FieldType)).before args0 about1 = true := code_word (m := ⟨8, 1⟩) (meth := k8m1) (c := k8c1) (by decide +kernel) rfl rfl rfl (by decide +kernel)
set_option maxRecDepth 65536 in
theorem w_c5 : (Jvm.Cond.code ({ cls := "java/lang/String", name := "<init>", desc := "([CIILjava/lang/Void;)V" } : Jvm.MethodName) jdk_42_method_149_code (6 : Nat) (Option.none : Option Jvm.ClassFile.FieldType)).before args0 about1 = true := code_word (m := ⟨8, 7⟩) (meth := k8m7) (c := k8c7) (by decide +kernel) rfl rfl rfl (by decide +kernel)
set_option maxRecDepth 65536 in
theorem w_c6 : (Jvm.Cond.code ({ cls := "java/lang/Object", name := "<init>", desc := "()V" } : Jvm.MethodName) object_method_1_code (1 : Nat) (Option.none : Option Jvm.ClassFile.FieldType)).before args0 about1 = true := code_word (m := ⟨0, 0⟩) (meth := k0m0) (c := k0c0) (by decide +kernel) rfl rfl rfl (by decide +kernel)
set_option maxRecDepth 65536 in
theorem w_c7 : (Jvm.Cond.code ({ cls := "java/lang/StringUTF16", name := "compress", desc := "([CII)[B" } : Jvm.MethodName) jdk_52_method_16_code (6 : Nat) (Option.some (Jvm.ClassFile.FieldType.array Jvm.ClassFile.FieldType.byte))).before args0 about1 = true := code_word (m := ⟨9, 2⟩) (meth := k9m2) (c := k9c2) (by decide +kernel) rfl rfl rfl (by decide +kernel)
set_option maxRecDepth 65536 in
theorem w_c8 : (Jvm.Cond.code ({ cls := "java/lang/StringUTF16", name := "compress", desc := "([CI[BII)I" } : Jvm.MethodName) jdk_52_method_21_code (7 : Nat) (Option.some Jvm.ClassFile.FieldType.int)).before args0 about1 = true := code_word (m := ⟨9, 3⟩) (meth := k9m3) (c := k9c3) (by decide +kernel) rfl rfl rfl (by decide +kernel)
set_option maxRecDepth 65536 in
theorem w_c9 : (Jvm.Cond.code ({ cls := "java/lang/StringUTF16", name := "coderFromArrayLen", desc := "([BI)B" } : Jvm.MethodName) jdk_52_method_15_code (2 : Nat) (Option.some Jvm.ClassFile.FieldType.byte)).before args0 about1 = true := code_word (m := ⟨9, 1⟩) (meth := k9m1) (c := k9c1) (by decide +kernel) rfl rfl rfl (by decide +kernel)
set_option maxRecDepth 65536 in
theorem w_c10 : (Jvm.Cond.code ({ cls := "com/example/atropos/atropos/io/CurveText", name := "quote", desc := "(Ljava/lang/String;)Ljava/lang/String;" } : Jvm.MethodName) prog_21_method_10_code (2 : Nat) (Option.some (Jvm.ClassFile.FieldType.object "java/lang/String"))).before args0 about1 = true := code_word (m := ⟨10, 1⟩) (meth := k10m1) (c := k10c1) (by decide +kernel) rfl rfl rfl (by decide +kernel)
set_option maxRecDepth 65536 in
theorem w_c11 : (Jvm.Cond.code ({ cls := "java/lang/String", name := "length", desc := "()I" } : Jvm.MethodName) jdk_42_method_54_code (1 : Nat) (Option.some Jvm.ClassFile.FieldType.int)).before args0 about1 = true := code_word (m := ⟨8, 3⟩) (meth := k8m3) (c := k8c3) (by decide +kernel) rfl rfl rfl (by decide +kernel)
set_option maxRecDepth 65536 in
theorem w_c12 : (Jvm.Cond.code ({ cls := "java/lang/String", name := "coder", desc := "()B" } : Jvm.MethodName) jdk_42_method_152_code (1 : Nat) (Option.some Jvm.ClassFile.FieldType.byte)).before args0 about1 = true := code_word (m := ⟨8, 10⟩) (meth := k8m10) (c := k8c10) (by decide +kernel) rfl rfl rfl (by decide +kernel)
set_option maxRecDepth 65536 in
theorem w_c13 : (Jvm.Cond.code ({ cls := "java/lang/StringBuilder", name := "<init>", desc := "()V" } : Jvm.MethodName) jdk_67_method_1_code (1 : Nat) (Option.none : Option Jvm.ClassFile.FieldType)).before args0 about1 = true := code_word (m := ⟨13, 0⟩) (meth := k13m0) (c := k13c0) (by decide +kernel) rfl rfl rfl (by decide +kernel)
set_option maxRecDepth 65536 in
theorem w_c14 : (Jvm.Cond.code ({ cls := "java/lang/AbstractStringBuilder", name := "<init>", desc := "(I)V" } : Jvm.MethodName) jdk_68_method_2_code (2 : Nat) (Option.none : Option Jvm.ClassFile.FieldType)).before args0 about1 = true := code_word (m := ⟨12, 1⟩) (meth := k12m1) (c := k12c1) (by decide +kernel) rfl rfl rfl (by decide +kernel)
set_option maxRecDepth 65536 in
theorem w_c15 : (Jvm.Cond.code ({ cls := "java/lang/StringBuilder", name := "append", desc := "(Ljava/lang/String;)Ljava/lang/StringBuilder;" } : Jvm.MethodName) jdk_67_method_7_code (2 : Nat) (Option.some (Jvm.ClassFile.FieldType.object "java/lang/StringBuilder"))).before args0 about1 = true := code_word (m := ⟨13, 1⟩) (meth := k13m1) (c := k13c1) (by decide +kernel) rfl rfl rfl (by decide +kernel)
set_option maxRecDepth 65536 in
theorem w_c16 : (Jvm.Cond.code ({ cls := "java/lang/AbstractStringBuilder", name := "append", desc := "(Ljava/lang/String;)Ljava/lang/AbstractStringBuilder;" } : Jvm.MethodName) jdk_68_method_22_code (3 : Nat) (Option.some (Jvm.ClassFile.FieldType.object "java/lang/AbstractStringBuilder"))).before args0 about1 = true := code_word (m := ⟨12, 5⟩) (meth := k12m5) (c := k12c5) (by decide +kernel) rfl rfl rfl (by decide +kernel)
set_option maxRecDepth 65536 in
theorem w_c17 : (Jvm.Cond.code ({ cls := "java/lang/AbstractStringBuilder", name := "ensureCapacityInternal", desc := "(I)V" } : Jvm.MethodName) jdk_68_method_9_code (3 : Nat) (Option.none : Option Jvm.ClassFile.FieldType)).before args0 about1 = true := code_word (m := ⟨12, 3⟩) (meth := k12m3) (c := k12c3) (by decide +kernel) rfl rfl rfl (by decide +kernel)
set_option maxRecDepth 65536 in
theorem w_c18 : (Jvm.Cond.code ({ cls := "java/lang/AbstractStringBuilder", name := "putStringAt", desc := "(ILjava/lang/String;)V" } : Jvm.MethodName) jdk_68_method_73_code (3 : Nat) (Option.none : Option Jvm.ClassFile.FieldType)).before args0 about1 = true := code_word (m := ⟨12, 9⟩) (meth := k12m9) (c := k12c9) (by decide +kernel) rfl rfl rfl (by decide +kernel)
set_option maxRecDepth 65536 in
theorem w_c19 : (Jvm.Cond.code ({ cls := "java/lang/AbstractStringBuilder", name := "inflateIfNeededFor", desc := "(Ljava/lang/String;)V" } : Jvm.MethodName) jdk_68_method_71_code (2 : Nat) (Option.none : Option Jvm.ClassFile.FieldType)).before args0 about1 = true := code_word (m := ⟨12, 8⟩) (meth := k12m8) (c := k12c8) (by decide +kernel) rfl rfl rfl (by decide +kernel)
set_option maxRecDepth 65536 in
theorem w_c20 : (Jvm.Cond.code ({ cls := "java/lang/String", name := "getBytes", desc := "([BIB)V" } : Jvm.MethodName) jdk_42_method_147_code (4 : Nat) (Option.none : Option Jvm.ClassFile.FieldType)).before args0 about1 = true := code_word (m := ⟨8, 6⟩) (meth := k8m6) (c := k8c6) (by decide +kernel) rfl rfl rfl (by decide +kernel)
set_option maxRecDepth 65536 in
theorem w_c21 : (Jvm.Cond.code ({ cls := "java/lang/StringBuilder", name := "toString", desc := "()Ljava/lang/String;" } : Jvm.MethodName) jdk_67_method_42_code (1 : Nat) (Option.some (Jvm.ClassFile.FieldType.object "java/lang/String"))).before args0 about1 = true := code_word (m := ⟨13, 2⟩) (meth := k13m2) (c := k13c2) (by decide +kernel) rfl rfl rfl (by decide +kernel)
set_option maxRecDepth 65536 in
theorem w_c22 : (Jvm.Cond.code ({ cls := "java/lang/String", name := "<init>", desc := "(Ljava/lang/StringBuilder;)V" } : Jvm.MethodName) jdk_42_method_53_code (2 : Nat) (Option.none : Option Jvm.ClassFile.FieldType)).before args0 about1 = true := code_word (m := ⟨8, 2⟩) (meth := k8m2) (c := k8c2) (by decide +kernel) rfl rfl rfl (by decide +kernel)
set_option maxRecDepth 65536 in
theorem w_c23 : (Jvm.Cond.code ({ cls := "java/lang/String", name := "<init>", desc := "(Ljava/lang/AbstractStringBuilder;Ljava/lang/Void;)V" } : Jvm.MethodName) jdk_42_method_150_code (5 : Nat) (Option.none : Option Jvm.ClassFile.FieldType)).before args0 about1 = true := code_word (m := ⟨8, 8⟩) (meth := k8m8) (c := k8c8) (by decide +kernel) rfl rfl rfl (by decide +kernel)
set_option maxRecDepth 65536 in
theorem w_c24 : (Jvm.Cond.code ({ cls := "java/lang/AbstractStringBuilder", name := "getValue", desc := "()[B" } : Jvm.MethodName) jdk_68_method_64_code (1 : Nat) (Option.some (Jvm.ClassFile.FieldType.array Jvm.ClassFile.FieldType.byte))).before args0 about1 = true := code_word (m := ⟨12, 6⟩) (meth := k12m6) (c := k12c6) (by decide +kernel) rfl rfl rfl (by decide +kernel)
set_option maxRecDepth 65536 in
theorem w_c25 : (Jvm.Cond.code ({ cls := "java/lang/StringBuilder", name := "length", desc := "()I" } : Jvm.MethodName) jdk_67_method_93_code (1 : Nat) (Option.some Jvm.ClassFile.FieldType.int)).before args0 about1 = true := code_word (m := ⟨13, 3⟩) (meth := k13m3) (c := k13c3) (by decide +kernel) rfl rfl rfl (by decide +kernel)
set_option maxRecDepth 65536 in
theorem w_c26 : (Jvm.Cond.code ({ cls := "java/lang/AbstractStringBuilder", name := "length", desc := "()I" } : Jvm.MethodName) jdk_68_method_6_code (1 : Nat) (Option.some Jvm.ClassFile.FieldType.int)).before args0 about1 = true := code_word (m := ⟨12, 2⟩) (meth := k12m2) (c := k12c2) (by decide +kernel) rfl rfl rfl (by decide +kernel)
set_option maxRecDepth 65536 in
theorem w_c27 : (Jvm.Cond.code ({ cls := "java/lang/AbstractStringBuilder", name := "isLatin1", desc := "()Z" } : Jvm.MethodName) jdk_68_method_68_code (1 : Nat) (Option.some Jvm.ClassFile.FieldType.boolean)).before args0 about1 = true := code_word (m := ⟨12, 7⟩) (meth := k12m7) (c := k12c7) (by decide +kernel) rfl rfl rfl (by decide +kernel)
set_option maxRecDepth 65536 in
theorem w_c28 : (Jvm.Cond.code ({ cls := "java/util/Arrays", name := "copyOfRange", desc := "([BII)[B" } : Jvm.MethodName) jdk_65_method_132_code (3 : Nat) (Option.some (Jvm.ClassFile.FieldType.array Jvm.ClassFile.FieldType.byte))).before args0 about1 = true := code_word (m := ⟨15, 3⟩) (meth := k15m3) (c := k15c3) (by decide +kernel) rfl rfl rfl (by decide +kernel)
set_option maxRecDepth 65536 in
theorem w_c29 : (Jvm.Cond.code ({ cls := "java/util/Arrays", name := "copyOfRangeByte", desc := "([BII)[B" } : Jvm.MethodName) jdk_65_method_133_code (5 : Nat) (Option.some (Jvm.ClassFile.FieldType.array Jvm.ClassFile.FieldType.byte))).before args0 about1 = true := code_word (m := ⟨15, 4⟩) (meth := k15m4) (c := k15c4) (by decide +kernel) rfl rfl rfl (by decide +kernel)
set_option maxRecDepth 65536 in
theorem w_c30 : (Jvm.Cond.code ({ cls := "java/util/Arrays", name := "checkLength", desc := "(II)V" } : Jvm.MethodName) jdk_65_method_131_code (2 : Nat) (Option.none : Option Jvm.ClassFile.FieldType)).before args0 about1 = true := code_word (m := ⟨15, 2⟩) (meth := k15m2) (c := k15c2) (by decide +kernel) rfl rfl rfl (by decide +kernel)
set_option maxRecDepth 65536 in
theorem w_c31 : (Jvm.Cond.code ({ cls := "java/lang/String", name := "equals", desc := "(Ljava/lang/Object;)Z" } : Jvm.MethodName) jdk_42_method_66_code (3 : Nat) (Option.some Jvm.ClassFile.FieldType.boolean)).before args0 about1 = true := code_word (m := ⟨8, 4⟩) (meth := k8m4) (c := k8c4) (by decide +kernel) rfl rfl rfl (by decide +kernel)
set_option maxRecDepth 65536 in
theorem w_c32 : (Jvm.Cond.code ({ cls := "java/lang/StringLatin1", name := "equals", desc := "([B[B)Z" } : Jvm.MethodName) jdk_43_method_13_code (3 : Nat) (Option.some Jvm.ClassFile.FieldType.boolean)).before args0 about1 = true := code_word (m := ⟨16, 1⟩) (meth := k16m1) (c := k16c1) (by decide +kernel) rfl rfl rfl (by decide +kernel)
set_option maxRecDepth 65536 in
theorem w_c33 : (Jvm.Cond.code ({ cls := "java/lang/AbstractStringBuilder", name := "newCapacity", desc := "(I)I" } : Jvm.MethodName) jdk_68_method_10_code (6 : Nat) (Option.some Jvm.ClassFile.FieldType.int)).before args0 about1 = true := code_word (m := ⟨12, 4⟩) (meth := k12m4) (c := k12c4) (by decide +kernel) rfl rfl rfl (by decide +kernel)
set_option maxRecDepth 65536 in
theorem w_c34 : (Jvm.Cond.code ({ cls := "jdk/internal/util/ArraysSupport", name := "newLength", desc := "(III)I" } : Jvm.MethodName) jdk_48_method_27_code (4 : Nat) (Option.some Jvm.ClassFile.FieldType.int)).before args0 about1 = true := code_word (m := ⟨17, 1⟩) (meth := k17m1) (c := k17c1) (by decide +kernel) rfl rfl rfl (by decide +kernel)
set_option maxRecDepth 65536 in
theorem w_c35 : (Jvm.Cond.code ({ cls := "java/lang/Math", name := "max", desc := "(II)I" } : Jvm.MethodName) jdk_29_method_65_code (2 : Nat) (Option.some Jvm.ClassFile.FieldType.int)).before args0 about1 = true := code_word (m := ⟨2, 1⟩) (meth := k2m1) (c := k2c1) (by decide +kernel) rfl rfl rfl (by decide +kernel)
set_option maxRecDepth 65536 in
theorem w_c36 : (Jvm.Cond.code ({ cls := "java/util/Arrays", name := "copyOf", desc := "([BI)[B" } : Jvm.MethodName) jdk_65_method_121_code (3 : Nat) (Option.some (Jvm.ClassFile.FieldType.array Jvm.ClassFile.FieldType.byte))).before args0 about1 = true := code_word (m := ⟨15, 1⟩) (meth := k15m1) (c := k15c1) (by decide +kernel) rfl rfl rfl (by decide +kernel)
set_option maxRecDepth 65536 in
theorem w_c37 : (Jvm.Cond.code ({ cls := "java/lang/String", name := "substring", desc := "(II)Ljava/lang/String;" } : Jvm.MethodName) jdk_42_method_92_code (5 : Nat) (Option.some (Jvm.ClassFile.FieldType.object "java/lang/String"))).before args0 about1 = true := code_word (m := ⟨8, 5⟩) (meth := k8m5) (c := k8c5) (by decide +kernel) rfl rfl rfl (by decide +kernel)
set_option maxRecDepth 65536 in
theorem w_c38 : (Jvm.Cond.code ({ cls := "java/lang/String", name := "checkBoundsBeginEnd", desc := "(III)V" } : Jvm.MethodName) jdk_42_method_158_code (3 : Nat) (Option.none : Option Jvm.ClassFile.FieldType)).before args0 about1 = true := code_word (m := ⟨8, 12⟩) (meth := k8m12) (c := k8c12) (by decide +kernel) rfl rfl rfl (by decide +kernel)
set_option maxRecDepth 65536 in
theorem w_c39 : (Jvm.Cond.code ({ cls := "jdk/internal/util/Preconditions", name := "checkFromToIndex", desc := "(IIILjava/util/function/BiFunction;)I" } : Jvm.MethodName) jdk_41_method_12_code (4 : Nat) (Option.some Jvm.ClassFile.FieldType.int)).before args0 about1 = true := code_word (m := ⟨18, 1⟩) (meth := k18m1) (c := k18c1) (by decide +kernel) rfl rfl rfl (by decide +kernel)
set_option maxRecDepth 65536 in
theorem w_c40 : (Jvm.Cond.code ({ cls := "java/lang/String", name := "isLatin1", desc := "()Z" } : Jvm.MethodName) jdk_42_method_154_code (1 : Nat) (Option.some Jvm.ClassFile.FieldType.boolean)).before args0 about1 = true := code_word (m := ⟨8, 11⟩) (meth := k8m11) (c := k8c11) (by decide +kernel) rfl rfl rfl (by decide +kernel)
set_option maxRecDepth 65536 in
theorem w_c41 : (Jvm.Cond.code ({ cls := "java/lang/StringLatin1", name := "newString", desc := "([BII)Ljava/lang/String;" } : Jvm.MethodName) jdk_43_method_47_code (3 : Nat) (Option.some (Jvm.ClassFile.FieldType.object "java/lang/String"))).before args0 about1 = true := code_word (m := ⟨16, 2⟩) (meth := k16m2) (c := k16c2) (by decide +kernel) rfl rfl rfl (by decide +kernel)
set_option maxRecDepth 65536 in
theorem w_c42 : (Jvm.Cond.code ({ cls := "java/lang/String", name := "<init>", desc := "([BB)V" } : Jvm.MethodName) jdk_42_method_151_code (3 : Nat) (Option.none : Option Jvm.ClassFile.FieldType)).before args0 about1 = true := code_word (m := ⟨8, 9⟩) (meth := k8m9) (c := k8c9) (by decide +kernel) rfl rfl rfl (by decide +kernel)
def codes1 : List Jvm.Cond := [Jvm.Cond.code x code maxLocals ret, Jvm.Cond.code ({ cls := "com/example/atropos/atropos/io/CurveTextQuotePinLaw", name := "put", desc := "([CII)V" } : Jvm.MethodName) method_3_code (3 : Nat) (Option.none : Option Jvm.ClassFile.FieldType), Jvm.Cond.code ({ cls := "java/lang/Math", name := "min", desc := "(II)I" } : Jvm.MethodName) jdk_29_method_69_code (2 : Nat) (Option.some Jvm.ClassFile.FieldType.int), Jvm.Cond.code ({ cls := "com/example/atropos/atropos/io/CurveTextQuotePinLaw", name := "copy", desc := "([C[CII)V" } : Jvm.MethodName) method_4_code (4 : Nat) (Option.none : Option Jvm.ClassFile.FieldType), Jvm.Cond.code ({ cls := "java/lang/String", name := "<init>", desc := "([C)V" } : Jvm.MethodName) jdk_42_method_3_code (2 : Nat) (Option.none : Option Jvm.ClassFile.FieldType), Jvm.Cond.code ({ cls := "java/lang/String", name := "<init>", desc := "([CIILjava/lang/Void;)V" } : Jvm.MethodName) jdk_42_method_149_code (6 : Nat) (Option.none : Option Jvm.ClassFile.FieldType), Jvm.Cond.code ({ cls := "java/lang/Object", name := "<init>", desc := "()V" } : Jvm.MethodName) object_method_1_code (1 : Nat) (Option.none : Option Jvm.ClassFile.FieldType), Jvm.Cond.code ({ cls := "java/lang/StringUTF16", name := "compress", desc := "([CII)[B" } : Jvm.MethodName) jdk_52_method_16_code (6 : Nat) (Option.some (Jvm.ClassFile.FieldType.array Jvm.ClassFile.FieldType.byte)), Jvm.Cond.code ({ cls := "java/lang/StringUTF16", name := "compress", desc := "([CI[BII)I" } : Jvm.MethodName) jdk_52_method_21_code (7 : Nat) (Option.some Jvm.ClassFile.FieldType.int), Jvm.Cond.code ({ cls := "java/lang/StringUTF16", name := "coderFromArrayLen", desc := "([BI)B" } : Jvm.MethodName) jdk_52_method_15_code (2 : Nat) (Option.some Jvm.ClassFile.FieldType.byte), Jvm.Cond.code ({ cls := "com/example/atropos/atropos/io/CurveText", name := "quote", desc := "(Ljava/lang/String;)Ljava/lang/String;" } : Jvm.MethodName) prog_21_method_10_code (2 : Nat) (Option.some (Jvm.ClassFile.FieldType.object "java/lang/String")), Jvm.Cond.code ({ cls := "java/lang/String", name := "length", desc := "()I" } : Jvm.MethodName) jdk_42_method_54_code (1 : Nat) (Option.some Jvm.ClassFile.FieldType.int), Jvm.Cond.code ({ cls := "java/lang/String", name := "coder", desc := "()B" } : Jvm.MethodName) jdk_42_method_152_code (1 : Nat) (Option.some Jvm.ClassFile.FieldType.byte), Jvm.Cond.code ({ cls := "java/lang/StringBuilder", name := "<init>", desc := "()V" } : Jvm.MethodName) jdk_67_method_1_code (1 : Nat) (Option.none : Option Jvm.ClassFile.FieldType), Jvm.Cond.code ({ cls := "java/lang/AbstractStringBuilder", name := "<init>", desc := "(I)V" } : Jvm.MethodName) jdk_68_method_2_code (2 : Nat) (Option.none : Option Jvm.ClassFile.FieldType), Jvm.Cond.code ({ cls := "java/lang/StringBuilder", name := "append", desc := "(Ljava/lang/String;)Ljava/lang/StringBuilder;" } : Jvm.MethodName) jdk_67_method_7_code (2 : Nat) (Option.some (Jvm.ClassFile.FieldType.object "java/lang/StringBuilder")), Jvm.Cond.code ({ cls := "java/lang/AbstractStringBuilder", name := "append", desc := "(Ljava/lang/String;)Ljava/lang/AbstractStringBuilder;" } : Jvm.MethodName) jdk_68_method_22_code (3 : Nat) (Option.some (Jvm.ClassFile.FieldType.object "java/lang/AbstractStringBuilder")), Jvm.Cond.code ({ cls := "java/lang/AbstractStringBuilder", name := "ensureCapacityInternal", desc := "(I)V" } : Jvm.MethodName) jdk_68_method_9_code (3 : Nat) (Option.none : Option Jvm.ClassFile.FieldType), Jvm.Cond.code ({ cls := "java/lang/AbstractStringBuilder", name := "putStringAt", desc := "(ILjava/lang/String;)V" } : Jvm.MethodName) jdk_68_method_73_code (3 : Nat) (Option.none : Option Jvm.ClassFile.FieldType), Jvm.Cond.code ({ cls := "java/lang/AbstractStringBuilder", name := "inflateIfNeededFor", desc := "(Ljava/lang/String;)V" } : Jvm.MethodName) jdk_68_method_71_code (2 : Nat) (Option.none : Option Jvm.ClassFile.FieldType), Jvm.Cond.code ({ cls := "java/lang/String", name := "getBytes", desc := "([BIB)V" } : Jvm.MethodName) jdk_42_method_147_code (4 : Nat) (Option.none : Option Jvm.ClassFile.FieldType), Jvm.Cond.code ({ cls := "java/lang/StringBuilder", name := "toString", desc := "()Ljava/lang/String;" } : Jvm.MethodName) jdk_67_method_42_code (1 : Nat) (Option.some (Jvm.ClassFile.FieldType.object "java/lang/String")), Jvm.Cond.code ({ cls := "java/lang/String", name := "<init>", desc := "(Ljava/lang/StringBuilder;)V" } : Jvm.MethodName) jdk_42_method_53_code (2 : Nat) (Option.none : Option Jvm.ClassFile.FieldType), Jvm.Cond.code ({ cls := "java/lang/String", name := "<init>", desc := "(Ljava/lang/AbstractStringBuilder;Ljava/lang/Void;)V" } : Jvm.MethodName) jdk_42_method_150_code (5 : Nat) (Option.none : Option Jvm.ClassFile.FieldType), Jvm.Cond.code ({ cls := "java/lang/AbstractStringBuilder", name := "getValue", desc := "()[B" } : Jvm.MethodName) jdk_68_method_64_code (1 : Nat) (Option.some (Jvm.ClassFile.FieldType.array Jvm.ClassFile.FieldType.byte)), Jvm.Cond.code ({ cls := "java/lang/StringBuilder", name := "length", desc := "()I" } : Jvm.MethodName) jdk_67_method_93_code (1 : Nat) (Option.some Jvm.ClassFile.FieldType.int), Jvm.Cond.code ({ cls := "java/lang/AbstractStringBuilder", name := "length", desc := "()I" } : Jvm.MethodName) jdk_68_method_6_code (1 : Nat) (Option.some Jvm.ClassFile.FieldType.int), Jvm.Cond.code ({ cls := "java/lang/AbstractStringBuilder", name := "isLatin1", desc := "()Z" } : Jvm.MethodName) jdk_68_method_68_code (1 : Nat) (Option.some Jvm.ClassFile.FieldType.boolean), Jvm.Cond.code ({ cls := "java/util/Arrays", name := "copyOfRange", desc := "([BII)[B" } : Jvm.MethodName) jdk_65_method_132_code (3 : Nat) (Option.some (Jvm.ClassFile.FieldType.array Jvm.ClassFile.FieldType.byte)), Jvm.Cond.code ({ cls := "java/util/Arrays", name := "copyOfRangeByte", desc := "([BII)[B" } : Jvm.MethodName) jdk_65_method_133_code (5 : Nat) (Option.some (Jvm.ClassFile.FieldType.array Jvm.ClassFile.FieldType.byte)), Jvm.Cond.code ({ cls := "java/util/Arrays", name := "checkLength", desc := "(II)V" } : Jvm.MethodName) jdk_65_method_131_code (2 : Nat) (Option.none : Option Jvm.ClassFile.FieldType), Jvm.Cond.code ({ cls := "java/lang/String", name := "equals", desc := "(Ljava/lang/Object;)Z" } : Jvm.MethodName) jdk_42_method_66_code (3 : Nat) (Option.some Jvm.ClassFile.FieldType.boolean), Jvm.Cond.code ({ cls := "java/lang/StringLatin1", name := "equals", desc := "([B[B)Z" } : Jvm.MethodName) jdk_43_method_13_code (3 : Nat) (Option.some Jvm.ClassFile.FieldType.boolean), Jvm.Cond.code ({ cls := "java/lang/AbstractStringBuilder", name := "newCapacity", desc := "(I)I" } : Jvm.MethodName) jdk_68_method_10_code (6 : Nat) (Option.some Jvm.ClassFile.FieldType.int), Jvm.Cond.code ({ cls := "jdk/internal/util/ArraysSupport", name := "newLength", desc := "(III)I" } : Jvm.MethodName) jdk_48_method_27_code (4 : Nat) (Option.some Jvm.ClassFile.FieldType.int), Jvm.Cond.code ({ cls := "java/lang/Math", name := "max", desc := "(II)I" } : Jvm.MethodName) jdk_29_method_65_code (2 : Nat) (Option.some Jvm.ClassFile.FieldType.int), Jvm.Cond.code ({ cls := "java/util/Arrays", name := "copyOf", desc := "([BI)[B" } : Jvm.MethodName) jdk_65_method_121_code (3 : Nat) (Option.some (Jvm.ClassFile.FieldType.array Jvm.ClassFile.FieldType.byte)), Jvm.Cond.code ({ cls := "java/lang/String", name := "substring", desc := "(II)Ljava/lang/String;" } : Jvm.MethodName) jdk_42_method_92_code (5 : Nat) (Option.some (Jvm.ClassFile.FieldType.object "java/lang/String")), Jvm.Cond.code ({ cls := "java/lang/String", name := "checkBoundsBeginEnd", desc := "(III)V" } : Jvm.MethodName) jdk_42_method_158_code (3 : Nat) (Option.none : Option Jvm.ClassFile.FieldType), Jvm.Cond.code ({ cls := "jdk/internal/util/Preconditions", name := "checkFromToIndex", desc := "(IIILjava/util/function/BiFunction;)I" } : Jvm.MethodName) jdk_41_method_12_code (4 : Nat) (Option.some Jvm.ClassFile.FieldType.int), Jvm.Cond.code ({ cls := "java/lang/String", name := "isLatin1", desc := "()Z" } : Jvm.MethodName) jdk_42_method_154_code (1 : Nat) (Option.some Jvm.ClassFile.FieldType.boolean), Jvm.Cond.code ({ cls := "java/lang/StringLatin1", name := "newString", desc := "([BII)Ljava/lang/String;" } : Jvm.MethodName) jdk_43_method_47_code (3 : Nat) (Option.some (Jvm.ClassFile.FieldType.object "java/lang/String")), Jvm.Cond.code ({ cls := "java/lang/String", name := "<init>", desc := "([BB)V" } : Jvm.MethodName) jdk_42_method_151_code (3 : Nat) (Option.none : Option Jvm.ClassFile.FieldType)]
set_option maxRecDepth 65536 in
theorem codes_eq : words1.filter isCode = codes1 := rfl
theorem w_codes : ∀ c ∈ words1.filter isCode, c.before args0 about1 = true := by
  rw [codes_eq]
  intro c hc
  simp only [codes1, List.mem_cons, List.not_mem_nil, or_false] at hc
  rcases hc with rfl | rfl | rfl | rfl | rfl | rfl | rfl | rfl | rfl | rfl | rfl | rfl | rfl | rfl | rfl | rfl | rfl | rfl | rfl | rfl | rfl | rfl | rfl | rfl | rfl | rfl | rfl | rfl | rfl | rfl | rfl | rfl | rfl | rfl | rfl | rfl | rfl | rfl | rfl | rfl | rfl | rfl | rfl
  · exact w_c0
  · exact w_c1
  · exact w_c2
  · exact w_c3
  · exact w_c4
  · exact w_c5
  · exact w_c6
  · exact w_c7
  · exact w_c8
  · exact w_c9
  · exact w_c10
  · exact w_c11
  · exact w_c12
  · exact w_c13
  · exact w_c14
  · exact w_c15
  · exact w_c16
  · exact w_c17
  · exact w_c18
  · exact w_c19
  · exact w_c20
  · exact w_c21
  · exact w_c22
  · exact w_c23
  · exact w_c24
  · exact w_c25
  · exact w_c26
  · exact w_c27
  · exact w_c28
  · exact w_c29
  · exact w_c30
  · exact w_c31
  · exact w_c32
  · exact w_c33
  · exact w_c34
  · exact w_c35
  · exact w_c36
  · exact w_c37
  · exact w_c38
  · exact w_c39
  · exact w_c40
  · exact w_c41
  · exact w_c42
set_option maxRecDepth 65536 in
theorem w_t1 : (words1.take 24).all (fun c => isCode c || c.before args0 about1) = true := by decide +kernel
set_option maxRecDepth 65536 in
theorem w_t2 : ((words1.drop 24).take 24).all (fun c => isCode c || c.before args0 about1) = true := by decide +kernel
set_option maxRecDepth 65536 in
theorem w_t3 : (((words1.drop 24).drop 24).take 24).all (fun c => isCode c || c.before args0 about1) = true := by decide +kernel
set_option maxRecDepth 65536 in
theorem w_t4 : ((((words1.drop 24).drop 24).drop 24).take 24).all (fun c => isCode c || c.before args0 about1) = true := by decide +kernel
set_option maxRecDepth 65536 in
theorem w_t5 : (((((words1.drop 24).drop 24).drop 24).drop 24).take 24).all (fun c => isCode c || c.before args0 about1) = true := by decide +kernel
set_option maxRecDepth 65536 in
theorem w_t6 : ((((((words1.drop 24).drop 24).drop 24).drop 24).drop 24).take 24).all (fun c => isCode c || c.before args0 about1) = true := by decide +kernel
set_option maxRecDepth 65536 in
theorem w_t7 : (((((((words1.drop 24).drop 24).drop 24).drop 24).drop 24).drop 24).take 24).all (fun c => isCode c || c.before args0 about1) = true := by decide +kernel
set_option maxRecDepth 65536 in
theorem w_t8 : ((((((((words1.drop 24).drop 24).drop 24).drop 24).drop 24).drop 24).drop 24).take 24).all (fun c => isCode c || c.before args0 about1) = true := by decide +kernel
set_option maxRecDepth 65536 in
theorem w_t9 : ((((((((words1.drop 24).drop 24).drop 24).drop 24).drop 24).drop 24).drop 24).drop 24).all (fun c => isCode c || c.before args0 about1) = true := by decide +kernel
theorem w_tables : (allAtoms (Jvm.Cond.code x code maxLocals ret :: tables_1)).before args0 about1 = true := by
  rw [allAtoms_all]
  show words1.all (fun c => c.before args0 about1) = true
  refine all_split ?_ w_codes
  rw [← List.take_append_drop 24 words1, List.all_append, w_t1, ← List.take_append_drop 24 (words1.drop 24), List.all_append, w_t2, ← List.take_append_drop 24 ((words1.drop 24).drop 24), List.all_append, w_t3, ← List.take_append_drop 24 (((words1.drop 24).drop 24).drop 24), List.all_append, w_t4, ← List.take_append_drop 24 ((((words1.drop 24).drop 24).drop 24).drop 24), List.all_append, w_t5, ← List.take_append_drop 24 (((((words1.drop 24).drop 24).drop 24).drop 24).drop 24), List.all_append, w_t6, ← List.take_append_drop 24 ((((((words1.drop 24).drop 24).drop 24).drop 24).drop 24).drop 24), List.all_append, w_t7, ← List.take_append_drop 24 (((((((words1.drop 24).drop 24).drop 24).drop 24).drop 24).drop 24).drop 24), List.all_append, w_t8, w_t9]
  rfl
set_option maxRecDepth 65536 in
theorem w_rest : rest_1_c.before args0 about1 = true := by decide +kernel
set_option maxRecDepth 65536 in
theorem w_case : (Jvm.Cond.and given_1 narrow_1).before args0 about1 = true := by decide +kernel
set_option maxRecDepth 65536 in
theorem w_consts : constsHeld consts_1 about1 := Jvm.Lit.constsHeldB_iff.mp (by decide +kernel)
theorem w_applies : (headSpec (Jvm.Cond.code x code maxLocals ret :: tables_1) room_1).applies x e0.platform about1 = true :=
  (Spec.applies_iff w_frames).mpr ⟨w_running, w_runnable, w_alone, w_named, w_hears, w_ripe, w_room, w_tables⟩
theorem atStart : AtStart classFile x code maxLocals ret World_1 tables_1 room_1 Calls_1 rest_1 Pre_1 launch0 p0 e0 about1 theMethod args0 below0 :=
  ⟨lists_1, trivial, launch0.admits_env _ _ _, launch0.least_env, fairChoices_fair.cas, fairChoices_fair.clock, w_frames, w_args, w_heap, w_applies, ⟨w_consts, trivial⟩, w_rest, w_case⟩
end start1
theorem witness_1 : WitnessClaimed_1 := ⟨start1.p0, start1.e0, start1.about1, start1.theMethod, start1.args0, start1.below0, start1.atStart⟩
end Jvm.Pilot.@@N@@
