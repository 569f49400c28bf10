import JvmDerived
import JvmDerived.Pilot.@@N@@Statement
import JvmDerived.Pilot.@@N@@Code
set_option linter.unusedVariables false
set_option linter.unusedSimpArgs false
namespace Jvm.Pilot.@@N@@
open Jvm Jvm.ClassFile Sem Op Lib Jvm.Free Jvm.Stand Jvm.LawKit Jvm.RoadKit Bundle Jvm.Pilot.@@N@@.Jvm.D
theorem own_sz {Z : State} {n0 : Nat} {h : Heap} (O : Old Z n0 h) : n0 ≤ h.size := O.1 ▸ O.2.1
theorem own_sta {args : Array Value} {s : State} {C n d K : String} (h : (Jvm.Cond.exactly (.static C n d) K).value args s none s [] = some true) (hi : (Jvm.Cond.initialized C).before args s = true) (hl : (Jvm.Cond.laysStatic C n d).before args s = true) :
    ∃ a, Sta s s.heap C n d (.ref a) ∧ Exa s s.heap a K ∧ (Term.static C n d).eval args s none [] s = some (.ref a) := by
  obtain ⟨a, ev⟩ := exa_v h
  exact ⟨a, Sta.start ev (Or.inr ⟨hi, hl⟩), Exa.start ev h, ev⟩
theorem own_fint {args : Array Value} {s : State} {t : Term} {a : Addr} {C n d : String} {k : Int32} (ev : t.eval args s none [] s = some (.ref a)) (h : (Jvm.Cond.eq (.field t C n d) (.int k)).value args s none s [] = some true) : Fld s s.heap a C n d (.int k) := by
  obtain ⟨x, y, h1, h2, -, -⟩ := cmp_v (Or.inl h)
  cases h2.symm.trans (Term.int_eval k)
  have h3 := h1
  rw [fld_at ev] at h3
  have : x = .int k := by
    cases x <;> simp_all [Cond.value, Term.eval]
  subst this
  exact Fld.start h3
theorem own_fnull {args : Array Value} {s : State} {t : Term} {a : Addr} {C n d : String} (ev : t.eval args s none [] s = some (.ref a)) (h : (Jvm.Cond.eq (.field t C n d) .null).value args s none s [] = some true) : Fld s s.heap a C n d .null := by
  have h1 := null_v h
  rw [fld_at ev] at h1
  exact Fld.start h1
theorem own_fexa {args : Array Value} {s : State} {t : Term} {a : Addr} {C n d K : String} (ev : t.eval args s none [] s = some (.ref a)) (h : (Jvm.Cond.exactly (.field t C n d) K).value args s none s [] = some true) :
    ∃ b, Fld s s.heap a C n d (.ref b) ∧ Exa s s.heap b K ∧ (Term.field t C n d).eval args s none [] s = some (.ref b) := by
  obtain ⟨b, e2⟩ := exa_v h
  have h1 := e2
  rw [fld_at ev] at h1
  exact ⟨b, Fld.start h1, Exa.start e2 h, e2⟩
theorem own_freq {args : Array Value} {s : State} {t u : Term} {a b : Addr} {C n d : String} (ev : t.eval args s none [] s = some (.ref a)) (eu : u.eval args s none [] s = some (.ref b)) (h : (Jvm.Cond.eq (.field t C n d) u).value args s none s [] = some true) : Fld s s.heap a C n d (.ref b) := by
  obtain ⟨x, y, h1, h2, -, -⟩ := cmp_v (Or.inl h)
  cases h2.symm.trans eu
  have h3 := h1
  rw [fld_at ev] at h3
  have : x = .ref b := by
    cases x <;> simp_all [Cond.value]
  subst this
  exact Fld.start h3
theorem own_nn {v : Value} {a : Addr} (h : v = .ref a) : ¬ v = Value.null := by rw [h]; exact nofun
theorem own_nref {n : String} {v : Value} (h : v.isRef = true) : narrow (.object n) v = v := by rcases ref_cases h with rfl | ⟨_, rfl⟩ <;> rfl
theorem own_fref {n : String} {v : Value} (h : v.isRef = true) : fits (.object n) v = true := by rcases ref_cases h with rfl | ⟨_, rfl⟩ <;> rfl
theorem own_nb {z : Int32} (h : z = 0 ∨ z = 1) : narrow .boolean (.int z) = .int z := by rcases h with rfl | rfl <;> rfl
theorem ow0 {a0 : Array Value} {Z : State} (hw : ∀ d ∈ tables_1, d.before a0 Z = true) : (Jvm.Cond.fieldLink "com/example/makewhole/makewhole/InterpolationOutsidePinLaw" (13 : Nat) "com/example/makewhole/makewhole/Interpolation$Side" "BELOW" "Lcom/example/makewhole/makewhole/Interpolation$Side;").before a0 Z = true := hw _ (List.mem_of_getElem? (i := 0) rfl)
theorem ow1 {a0 : Array Value} {Z : State} (hw : ∀ d ∈ tables_1, d.before a0 Z = true) : (Jvm.Cond.initialized "com/example/makewhole/makewhole/Interpolation$Side").before a0 Z = true := hw _ (List.mem_of_getElem? (i := 1) rfl)
theorem ow2 {a0 : Array Value} {Z : State} (hw : ∀ d ∈ tables_1, d.before a0 Z = true) : (Jvm.Cond.laysStatic "com/example/makewhole/makewhole/Interpolation$Side" "BELOW" "Lcom/example/makewhole/makewhole/Interpolation$Side;").before a0 Z = true := hw _ (List.mem_of_getElem? (i := 2) rfl)
theorem ow3 {a0 : Array Value} {Z : State} (hw : ∀ d ∈ tables_1, d.before a0 Z = true) : (Jvm.Cond.methodLink "com/example/makewhole/makewhole/InterpolationOutsidePinLaw" (16 : Nat) ({ cls := "com/example/makewhole/makewhole/Interpolation", name := "outside", desc := "(Lcom/example/makewhole/makewhole/Interpolation$Side;)Lcom/example/makewhole/makewhole/Interpolation;" } : Jvm.MethodName)).before a0 Z = true := hw _ (List.mem_of_getElem? (i := 3) rfl)
theorem ow4 {a0 : Array Value} {Z : State} (hw : ∀ d ∈ tables_1, d.before a0 Z = true) : (Jvm.Cond.static ({ cls := "com/example/makewhole/makewhole/Interpolation", name := "outside", desc := "(Lcom/example/makewhole/makewhole/Interpolation$Side;)Lcom/example/makewhole/makewhole/Interpolation;" } : Jvm.MethodName)).before a0 Z = true := hw _ (List.mem_of_getElem? (i := 4) rfl)
theorem ow5 {a0 : Array Value} {Z : State} (hw : ∀ d ∈ tables_1, d.before a0 Z = true) : (Jvm.Cond.initialized "com/example/makewhole/makewhole/Interpolation").before a0 Z = true := hw _ (List.mem_of_getElem? (i := 5) rfl)
theorem ow6 {a0 : Array Value} {Z : State} (hw : ∀ d ∈ tables_1, d.before a0 Z = true) : (Jvm.Cond.code ({ cls := "com/example/makewhole/makewhole/Interpolation", name := "outside", desc := "(Lcom/example/makewhole/makewhole/Interpolation$Side;)Lcom/example/makewhole/makewhole/Interpolation;" } : Jvm.MethodName) prog_15_method_2_code (1 : Nat) (Option.some (Jvm.ClassFile.FieldType.object "com/example/makewhole/makewhole/Interpolation"))).before a0 Z = true := hw _ (List.mem_of_getElem? (i := 6) rfl)
theorem ow7 {a0 : Array Value} {Z : State} (hw : ∀ d ∈ tables_1, d.before a0 Z = true) : (Jvm.Cond.classLink "com/example/makewhole/makewhole/Interpolation" (8 : Nat) "com/example/makewhole/makewhole/Interpolation").before a0 Z = true := hw _ (List.mem_of_getElem? (i := 7) rfl)
theorem ow8 {a0 : Array Value} {Z : State} (hw : ∀ d ∈ tables_1, d.before a0 Z = true) : (Jvm.Cond.instantiable "com/example/makewhole/makewhole/Interpolation" (7 : Nat)).before a0 Z = true := hw _ (List.mem_of_getElem? (i := 8) rfl)
theorem ow9 {a0 : Array Value} {Z : State} (hw : ∀ d ∈ tables_1, d.before a0 Z = true) : (Jvm.Cond.fieldLink "com/example/makewhole/makewhole/Interpolation" (33 : Nat) "com/example/makewhole/makewhole/Fraction" "ZERO" "Lcom/example/makewhole/makewhole/Fraction;").before a0 Z = true := hw _ (List.mem_of_getElem? (i := 9) rfl)
theorem ow10 {a0 : Array Value} {Z : State} (hw : ∀ d ∈ tables_1, d.before a0 Z = true) : (Jvm.Cond.initialized "com/example/makewhole/makewhole/Fraction").before a0 Z = true := hw _ (List.mem_of_getElem? (i := 10) rfl)
theorem ow11 {a0 : Array Value} {Z : State} (hw : ∀ d ∈ tables_1, d.before a0 Z = true) : (Jvm.Cond.laysStatic "com/example/makewhole/makewhole/Fraction" "ZERO" "Lcom/example/makewhole/makewhole/Fraction;").before a0 Z = true := hw _ (List.mem_of_getElem? (i := 11) rfl)
theorem ow12 {a0 : Array Value} {Z : State} (hw : ∀ d ∈ tables_1, d.before a0 Z = true) : (Jvm.Cond.methodLink "com/example/makewhole/makewhole/Interpolation" (38 : Nat) ({ cls := "com/example/makewhole/makewhole/Interpolation", name := "<init>", desc := "(Lcom/example/makewhole/makewhole/Interpolation$Side;Ljava/util/List;Ljava/util/List;Ljava/util/List;Lcom/example/makewhole/makewhole/Fraction;Lcom/example/makewhole/makewhole/Fraction;Lcom/example/makewhole/makewhole/Fraction;)V" } : Jvm.MethodName)).before a0 Z = true := hw _ (List.mem_of_getElem? (i := 12) rfl)
theorem ow13 {a0 : Array Value} {Z : State} (hw : ∀ d ∈ tables_1, d.before a0 Z = true) : (Jvm.Cond.instanceMethod ({ cls := "com/example/makewhole/makewhole/Interpolation", name := "<init>", desc := "(Lcom/example/makewhole/makewhole/Interpolation$Side;Ljava/util/List;Ljava/util/List;Ljava/util/List;Lcom/example/makewhole/makewhole/Fraction;Lcom/example/makewhole/makewhole/Fraction;Lcom/example/makewhole/makewhole/Fraction;)V" } : Jvm.MethodName)).before a0 Z = true := hw _ (List.mem_of_getElem? (i := 13) rfl)
theorem ow14 {a0 : Array Value} {Z : State} (hw : ∀ d ∈ tables_1, d.before a0 Z = true) : (Jvm.Cond.code ({ cls := "com/example/makewhole/makewhole/Interpolation", name := "<init>", desc := "(Lcom/example/makewhole/makewhole/Interpolation$Side;Ljava/util/List;Ljava/util/List;Ljava/util/List;Lcom/example/makewhole/makewhole/Fraction;Lcom/example/makewhole/makewhole/Fraction;Lcom/example/makewhole/makewhole/Fraction;)V" } : Jvm.MethodName) prog_15_method_1_code (8 : Nat) (Option.none : Option Jvm.ClassFile.FieldType)).before a0 Z = true := hw _ (List.mem_of_getElem? (i := 14) rfl)
theorem ow15 {a0 : Array Value} {Z : State} (hw : ∀ d ∈ tables_1, d.before a0 Z = true) : (Jvm.Cond.methodLink "com/example/makewhole/makewhole/Interpolation" (1 : Nat) ({ cls := "java/lang/Record", name := "<init>", desc := "()V" } : Jvm.MethodName)).before a0 Z = true := hw _ (List.mem_of_getElem? (i := 15) rfl)
theorem ow16 {a0 : Array Value} {Z : State} (hw : ∀ d ∈ tables_1, d.before a0 Z = true) : (Jvm.Cond.instanceMethod ({ cls := "java/lang/Record", name := "<init>", desc := "()V" } : Jvm.MethodName)).before a0 Z = true := hw _ (List.mem_of_getElem? (i := 16) rfl)
theorem ow18 {a0 : Array Value} {Z : State} (hw : ∀ d ∈ tables_1, d.before a0 Z = true) : (Jvm.Cond.initialized "java/lang/Record").before a0 Z = true := hw _ (List.mem_of_getElem? (i := 18) rfl)
theorem ow19 {a0 : Array Value} {Z : State} (hw : ∀ d ∈ tables_1, d.before a0 Z = true) : (Jvm.Cond.code ({ cls := "java/lang/Record", name := "<init>", desc := "()V" } : Jvm.MethodName) jdk_30_method_1_code (1 : Nat) (Option.none : Option Jvm.ClassFile.FieldType)).before a0 Z = true := hw _ (List.mem_of_getElem? (i := 19) rfl)
theorem ow20 {a0 : Array Value} {Z : State} (hw : ∀ d ∈ tables_1, d.before a0 Z = true) : (Jvm.Cond.methodLink "java/lang/Record" (1 : Nat) ({ cls := "java/lang/Object", name := "<init>", desc := "()V" } : Jvm.MethodName)).before a0 Z = true := hw _ (List.mem_of_getElem? (i := 20) rfl)
theorem ow21 {a0 : Array Value} {Z : State} (hw : ∀ d ∈ tables_1, d.before a0 Z = true) : (Jvm.Cond.instanceMethod ({ cls := "java/lang/Object", name := "<init>", desc := "()V" } : Jvm.MethodName)).before a0 Z = true := hw _ (List.mem_of_getElem? (i := 21) rfl)
theorem ow22 {a0 : Array Value} {Z : State} (hw : ∀ d ∈ tables_1, d.before a0 Z = true) : (Jvm.Cond.code ({ cls := "java/lang/Object", name := "<init>", desc := "()V" } : Jvm.MethodName) object_method_1_code (1 : Nat) (Option.none : Option Jvm.ClassFile.FieldType)).before a0 Z = true := hw _ (List.mem_of_getElem? (i := 22) rfl)
theorem ow23 {a0 : Array Value} {Z : State} (hw : ∀ d ∈ tables_1, d.before a0 Z = true) : (Jvm.Cond.fieldLink "com/example/makewhole/makewhole/Interpolation" (7 : Nat) "com/example/makewhole/makewhole/Interpolation" "outside" "Lcom/example/makewhole/makewhole/Interpolation$Side;").before a0 Z = true := hw _ (List.mem_of_getElem? (i := 23) rfl)
theorem ow24 {a0 : Array Value} {Z : State} (hw : ∀ d ∈ tables_1, d.before a0 Z = true) : (Jvm.Cond.laysFinal "com/example/makewhole/makewhole/Interpolation" "com/example/makewhole/makewhole/Interpolation" "outside" "Lcom/example/makewhole/makewhole/Interpolation$Side;").before a0 Z = true := hw _ (List.mem_of_getElem? (i := 24) rfl)
theorem ow25 {a0 : Array Value} {Z : State} (hw : ∀ d ∈ tables_1, d.before a0 Z = true) : (Jvm.Cond.fieldLink "com/example/makewhole/makewhole/Interpolation" (13 : Nat) "com/example/makewhole/makewhole/Interpolation" "prices" "Ljava/util/List;").before a0 Z = true := hw _ (List.mem_of_getElem? (i := 25) rfl)
theorem ow26 {a0 : Array Value} {Z : State} (hw : ∀ d ∈ tables_1, d.before a0 Z = true) : (Jvm.Cond.laysFinal "com/example/makewhole/makewhole/Interpolation" "com/example/makewhole/makewhole/Interpolation" "prices" "Ljava/util/List;").before a0 Z = true := hw _ (List.mem_of_getElem? (i := 26) rfl)
theorem ow27 {a0 : Array Value} {Z : State} (hw : ∀ d ∈ tables_1, d.before a0 Z = true) : (Jvm.Cond.fieldLink "com/example/makewhole/makewhole/Interpolation" (17 : Nat) "com/example/makewhole/makewhole/Interpolation" "dates" "Ljava/util/List;").before a0 Z = true := hw _ (List.mem_of_getElem? (i := 27) rfl)
theorem ow28 {a0 : Array Value} {Z : State} (hw : ∀ d ∈ tables_1, d.before a0 Z = true) : (Jvm.Cond.laysFinal "com/example/makewhole/makewhole/Interpolation" "com/example/makewhole/makewhole/Interpolation" "dates" "Ljava/util/List;").before a0 Z = true := hw _ (List.mem_of_getElem? (i := 28) rfl)
theorem ow29 {a0 : Array Value} {Z : State} (hw : ∀ d ∈ tables_1, d.before a0 Z = true) : (Jvm.Cond.fieldLink "com/example/makewhole/makewhole/Interpolation" (20 : Nat) "com/example/makewhole/makewhole/Interpolation" "cells" "Ljava/util/List;").before a0 Z = true := hw _ (List.mem_of_getElem? (i := 29) rfl)
theorem ow30 {a0 : Array Value} {Z : State} (hw : ∀ d ∈ tables_1, d.before a0 Z = true) : (Jvm.Cond.laysFinal "com/example/makewhole/makewhole/Interpolation" "com/example/makewhole/makewhole/Interpolation" "cells" "Ljava/util/List;").before a0 Z = true := hw _ (List.mem_of_getElem? (i := 30) rfl)
theorem ow31 {a0 : Array Value} {Z : State} (hw : ∀ d ∈ tables_1, d.before a0 Z = true) : (Jvm.Cond.fieldLink "com/example/makewhole/makewhole/Interpolation" (23 : Nat) "com/example/makewhole/makewhole/Interpolation" "priceWeight" "Lcom/example/makewhole/makewhole/Fraction;").before a0 Z = true := hw _ (List.mem_of_getElem? (i := 31) rfl)
theorem ow32 {a0 : Array Value} {Z : State} (hw : ∀ d ∈ tables_1, d.before a0 Z = true) : (Jvm.Cond.laysFinal "com/example/makewhole/makewhole/Interpolation" "com/example/makewhole/makewhole/Interpolation" "priceWeight" "Lcom/example/makewhole/makewhole/Fraction;").before a0 Z = true := hw _ (List.mem_of_getElem? (i := 32) rfl)
theorem ow33 {a0 : Array Value} {Z : State} (hw : ∀ d ∈ tables_1, d.before a0 Z = true) : (Jvm.Cond.fieldLink "com/example/makewhole/makewhole/Interpolation" (27 : Nat) "com/example/makewhole/makewhole/Interpolation" "dateWeight" "Lcom/example/makewhole/makewhole/Fraction;").before a0 Z = true := hw _ (List.mem_of_getElem? (i := 33) rfl)
theorem ow34 {a0 : Array Value} {Z : State} (hw : ∀ d ∈ tables_1, d.before a0 Z = true) : (Jvm.Cond.laysFinal "com/example/makewhole/makewhole/Interpolation" "com/example/makewhole/makewhole/Interpolation" "dateWeight" "Lcom/example/makewhole/makewhole/Fraction;").before a0 Z = true := hw _ (List.mem_of_getElem? (i := 34) rfl)
theorem ow35 {a0 : Array Value} {Z : State} (hw : ∀ d ∈ tables_1, d.before a0 Z = true) : (Jvm.Cond.fieldLink "com/example/makewhole/makewhole/Interpolation" (30 : Nat) "com/example/makewhole/makewhole/Interpolation" "value" "Lcom/example/makewhole/makewhole/Fraction;").before a0 Z = true := hw _ (List.mem_of_getElem? (i := 35) rfl)
theorem ow36 {a0 : Array Value} {Z : State} (hw : ∀ d ∈ tables_1, d.before a0 Z = true) : (Jvm.Cond.laysFinal "com/example/makewhole/makewhole/Interpolation" "com/example/makewhole/makewhole/Interpolation" "value" "Lcom/example/makewhole/makewhole/Fraction;").before a0 Z = true := hw _ (List.mem_of_getElem? (i := 36) rfl)
theorem ow37 {a0 : Array Value} {Z : State} (hw : ∀ d ∈ tables_1, d.before a0 Z = true) : (Jvm.Cond.methodLink "com/example/makewhole/makewhole/InterpolationOutsidePinLaw" (22 : Nat) ({ cls := "com/example/makewhole/makewhole/Interpolation", name := "outside", desc := "()Lcom/example/makewhole/makewhole/Interpolation$Side;" } : Jvm.MethodName)).before a0 Z = true := hw _ (List.mem_of_getElem? (i := 37) rfl)
theorem ow38 {a0 : Array Value} {Z : State} (hw : ∀ d ∈ tables_1, d.before a0 Z = true) : (Jvm.Cond.declares ({ cls := "com/example/makewhole/makewhole/Interpolation", name := "outside", desc := "()Lcom/example/makewhole/makewhole/Interpolation$Side;" } : Jvm.MethodName)).before a0 Z = true := hw _ (List.mem_of_getElem? (i := 38) rfl)
theorem ow39 {a0 : Array Value} {Z : State} (hw : ∀ d ∈ tables_1, d.before a0 Z = true) : (Jvm.Cond.instanceMethod ({ cls := "com/example/makewhole/makewhole/Interpolation", name := "outside", desc := "()Lcom/example/makewhole/makewhole/Interpolation$Side;" } : Jvm.MethodName)).before a0 Z = true := hw _ (List.mem_of_getElem? (i := 39) rfl)
theorem ow40 {a0 : Array Value} {Z : State} (hw : ∀ d ∈ tables_1, d.before a0 Z = true) : (Jvm.Cond.selects "com/example/makewhole/makewhole/Interpolation" ({ cls := "com/example/makewhole/makewhole/Interpolation", name := "outside", desc := "()Lcom/example/makewhole/makewhole/Interpolation$Side;" } : Jvm.MethodName) ({ cls := "com/example/makewhole/makewhole/Interpolation", name := "outside", desc := "()Lcom/example/makewhole/makewhole/Interpolation$Side;" } : Jvm.MethodName)).before a0 Z = true := hw _ (List.mem_of_getElem? (i := 40) rfl)
theorem ow41 {a0 : Array Value} {Z : State} (hw : ∀ d ∈ tables_1, d.before a0 Z = true) : (Jvm.Cond.code ({ cls := "com/example/makewhole/makewhole/Interpolation", name := "outside", desc := "()Lcom/example/makewhole/makewhole/Interpolation$Side;" } : Jvm.MethodName) prog_15_method_8_code (1 : Nat) (Option.some (Jvm.ClassFile.FieldType.object "com/example/makewhole/makewhole/Interpolation$Side"))).before a0 Z = true := hw _ (List.mem_of_getElem? (i := 41) rfl)
theorem ow42 {a0 : Array Value} {Z : State} (hw : ∀ d ∈ tables_1, d.before a0 Z = true) : (Jvm.Cond.methodLink "com/example/makewhole/makewhole/InterpolationOutsidePinLaw" (25 : Nat) ({ cls := "com/example/makewhole/makewhole/Interpolation", name := "prices", desc := "()Ljava/util/List;" } : Jvm.MethodName)).before a0 Z = true := hw _ (List.mem_of_getElem? (i := 42) rfl)
theorem ow43 {a0 : Array Value} {Z : State} (hw : ∀ d ∈ tables_1, d.before a0 Z = true) : (Jvm.Cond.declares ({ cls := "com/example/makewhole/makewhole/Interpolation", name := "prices", desc := "()Ljava/util/List;" } : Jvm.MethodName)).before a0 Z = true := hw _ (List.mem_of_getElem? (i := 43) rfl)
theorem ow44 {a0 : Array Value} {Z : State} (hw : ∀ d ∈ tables_1, d.before a0 Z = true) : (Jvm.Cond.instanceMethod ({ cls := "com/example/makewhole/makewhole/Interpolation", name := "prices", desc := "()Ljava/util/List;" } : Jvm.MethodName)).before a0 Z = true := hw _ (List.mem_of_getElem? (i := 44) rfl)
theorem ow45 {a0 : Array Value} {Z : State} (hw : ∀ d ∈ tables_1, d.before a0 Z = true) : (Jvm.Cond.selects "com/example/makewhole/makewhole/Interpolation" ({ cls := "com/example/makewhole/makewhole/Interpolation", name := "prices", desc := "()Ljava/util/List;" } : Jvm.MethodName) ({ cls := "com/example/makewhole/makewhole/Interpolation", name := "prices", desc := "()Ljava/util/List;" } : Jvm.MethodName)).before a0 Z = true := hw _ (List.mem_of_getElem? (i := 45) rfl)
theorem ow46 {a0 : Array Value} {Z : State} (hw : ∀ d ∈ tables_1, d.before a0 Z = true) : (Jvm.Cond.code ({ cls := "com/example/makewhole/makewhole/Interpolation", name := "prices", desc := "()Ljava/util/List;" } : Jvm.MethodName) prog_15_method_9_code (1 : Nat) (Option.some (Jvm.ClassFile.FieldType.object "java/util/List"))).before a0 Z = true := hw _ (List.mem_of_getElem? (i := 46) rfl)
theorem ow47 {a0 : Array Value} {Z : State} (hw : ∀ d ∈ tables_1, d.before a0 Z = true) : (Jvm.Cond.methodLink "com/example/makewhole/makewhole/InterpolationOutsidePinLaw" (29 : Nat) ({ cls := "com/example/makewhole/makewhole/Interpolation", name := "dates", desc := "()Ljava/util/List;" } : Jvm.MethodName)).before a0 Z = true := hw _ (List.mem_of_getElem? (i := 47) rfl)
theorem ow48 {a0 : Array Value} {Z : State} (hw : ∀ d ∈ tables_1, d.before a0 Z = true) : (Jvm.Cond.declares ({ cls := "com/example/makewhole/makewhole/Interpolation", name := "dates", desc := "()Ljava/util/List;" } : Jvm.MethodName)).before a0 Z = true := hw _ (List.mem_of_getElem? (i := 48) rfl)
theorem ow49 {a0 : Array Value} {Z : State} (hw : ∀ d ∈ tables_1, d.before a0 Z = true) : (Jvm.Cond.instanceMethod ({ cls := "com/example/makewhole/makewhole/Interpolation", name := "dates", desc := "()Ljava/util/List;" } : Jvm.MethodName)).before a0 Z = true := hw _ (List.mem_of_getElem? (i := 49) rfl)
theorem ow50 {a0 : Array Value} {Z : State} (hw : ∀ d ∈ tables_1, d.before a0 Z = true) : (Jvm.Cond.selects "com/example/makewhole/makewhole/Interpolation" ({ cls := "com/example/makewhole/makewhole/Interpolation", name := "dates", desc := "()Ljava/util/List;" } : Jvm.MethodName) ({ cls := "com/example/makewhole/makewhole/Interpolation", name := "dates", desc := "()Ljava/util/List;" } : Jvm.MethodName)).before a0 Z = true := hw _ (List.mem_of_getElem? (i := 50) rfl)
theorem ow51 {a0 : Array Value} {Z : State} (hw : ∀ d ∈ tables_1, d.before a0 Z = true) : (Jvm.Cond.code ({ cls := "com/example/makewhole/makewhole/Interpolation", name := "dates", desc := "()Ljava/util/List;" } : Jvm.MethodName) prog_15_method_10_code (1 : Nat) (Option.some (Jvm.ClassFile.FieldType.object "java/util/List"))).before a0 Z = true := hw _ (List.mem_of_getElem? (i := 51) rfl)
theorem ow52 {a0 : Array Value} {Z : State} (hw : ∀ d ∈ tables_1, d.before a0 Z = true) : (Jvm.Cond.methodLink "com/example/makewhole/makewhole/InterpolationOutsidePinLaw" (32 : Nat) ({ cls := "com/example/makewhole/makewhole/Interpolation", name := "cells", desc := "()Ljava/util/List;" } : Jvm.MethodName)).before a0 Z = true := hw _ (List.mem_of_getElem? (i := 52) rfl)
theorem ow53 {a0 : Array Value} {Z : State} (hw : ∀ d ∈ tables_1, d.before a0 Z = true) : (Jvm.Cond.declares ({ cls := "com/example/makewhole/makewhole/Interpolation", name := "cells", desc := "()Ljava/util/List;" } : Jvm.MethodName)).before a0 Z = true := hw _ (List.mem_of_getElem? (i := 53) rfl)
theorem ow54 {a0 : Array Value} {Z : State} (hw : ∀ d ∈ tables_1, d.before a0 Z = true) : (Jvm.Cond.instanceMethod ({ cls := "com/example/makewhole/makewhole/Interpolation", name := "cells", desc := "()Ljava/util/List;" } : Jvm.MethodName)).before a0 Z = true := hw _ (List.mem_of_getElem? (i := 54) rfl)
theorem ow55 {a0 : Array Value} {Z : State} (hw : ∀ d ∈ tables_1, d.before a0 Z = true) : (Jvm.Cond.selects "com/example/makewhole/makewhole/Interpolation" ({ cls := "com/example/makewhole/makewhole/Interpolation", name := "cells", desc := "()Ljava/util/List;" } : Jvm.MethodName) ({ cls := "com/example/makewhole/makewhole/Interpolation", name := "cells", desc := "()Ljava/util/List;" } : Jvm.MethodName)).before a0 Z = true := hw _ (List.mem_of_getElem? (i := 55) rfl)
theorem ow56 {a0 : Array Value} {Z : State} (hw : ∀ d ∈ tables_1, d.before a0 Z = true) : (Jvm.Cond.code ({ cls := "com/example/makewhole/makewhole/Interpolation", name := "cells", desc := "()Ljava/util/List;" } : Jvm.MethodName) prog_15_method_11_code (1 : Nat) (Option.some (Jvm.ClassFile.FieldType.object "java/util/List"))).before a0 Z = true := hw _ (List.mem_of_getElem? (i := 56) rfl)
theorem ow57 {a0 : Array Value} {Z : State} (hw : ∀ d ∈ tables_1, d.before a0 Z = true) : (Jvm.Cond.methodLink "com/example/makewhole/makewhole/InterpolationOutsidePinLaw" (35 : Nat) ({ cls := "com/example/makewhole/makewhole/Interpolation", name := "priceWeight", desc := "()Lcom/example/makewhole/makewhole/Fraction;" } : Jvm.MethodName)).before a0 Z = true := hw _ (List.mem_of_getElem? (i := 57) rfl)
theorem ow58 {a0 : Array Value} {Z : State} (hw : ∀ d ∈ tables_1, d.before a0 Z = true) : (Jvm.Cond.declares ({ cls := "com/example/makewhole/makewhole/Interpolation", name := "priceWeight", desc := "()Lcom/example/makewhole/makewhole/Fraction;" } : Jvm.MethodName)).before a0 Z = true := hw _ (List.mem_of_getElem? (i := 58) rfl)
theorem ow59 {a0 : Array Value} {Z : State} (hw : ∀ d ∈ tables_1, d.before a0 Z = true) : (Jvm.Cond.instanceMethod ({ cls := "com/example/makewhole/makewhole/Interpolation", name := "priceWeight", desc := "()Lcom/example/makewhole/makewhole/Fraction;" } : Jvm.MethodName)).before a0 Z = true := hw _ (List.mem_of_getElem? (i := 59) rfl)
theorem ow60 {a0 : Array Value} {Z : State} (hw : ∀ d ∈ tables_1, d.before a0 Z = true) : (Jvm.Cond.selects "com/example/makewhole/makewhole/Interpolation" ({ cls := "com/example/makewhole/makewhole/Interpolation", name := "priceWeight", desc := "()Lcom/example/makewhole/makewhole/Fraction;" } : Jvm.MethodName) ({ cls := "com/example/makewhole/makewhole/Interpolation", name := "priceWeight", desc := "()Lcom/example/makewhole/makewhole/Fraction;" } : Jvm.MethodName)).before a0 Z = true := hw _ (List.mem_of_getElem? (i := 60) rfl)
theorem ow61 {a0 : Array Value} {Z : State} (hw : ∀ d ∈ tables_1, d.before a0 Z = true) : (Jvm.Cond.code ({ cls := "com/example/makewhole/makewhole/Interpolation", name := "priceWeight", desc := "()Lcom/example/makewhole/makewhole/Fraction;" } : Jvm.MethodName) prog_15_method_12_code (1 : Nat) (Option.some (Jvm.ClassFile.FieldType.object "com/example/makewhole/makewhole/Fraction"))).before a0 Z = true := hw _ (List.mem_of_getElem? (i := 61) rfl)
theorem ow62 {a0 : Array Value} {Z : State} (hw : ∀ d ∈ tables_1, d.before a0 Z = true) : (Jvm.Cond.methodLink "com/example/makewhole/makewhole/InterpolationOutsidePinLaw" (39 : Nat) ({ cls := "com/example/makewhole/makewhole/Interpolation", name := "dateWeight", desc := "()Lcom/example/makewhole/makewhole/Fraction;" } : Jvm.MethodName)).before a0 Z = true := hw _ (List.mem_of_getElem? (i := 62) rfl)
theorem ow63 {a0 : Array Value} {Z : State} (hw : ∀ d ∈ tables_1, d.before a0 Z = true) : (Jvm.Cond.declares ({ cls := "com/example/makewhole/makewhole/Interpolation", name := "dateWeight", desc := "()Lcom/example/makewhole/makewhole/Fraction;" } : Jvm.MethodName)).before a0 Z = true := hw _ (List.mem_of_getElem? (i := 63) rfl)
theorem ow64 {a0 : Array Value} {Z : State} (hw : ∀ d ∈ tables_1, d.before a0 Z = true) : (Jvm.Cond.instanceMethod ({ cls := "com/example/makewhole/makewhole/Interpolation", name := "dateWeight", desc := "()Lcom/example/makewhole/makewhole/Fraction;" } : Jvm.MethodName)).before a0 Z = true := hw _ (List.mem_of_getElem? (i := 64) rfl)
theorem ow65 {a0 : Array Value} {Z : State} (hw : ∀ d ∈ tables_1, d.before a0 Z = true) : (Jvm.Cond.selects "com/example/makewhole/makewhole/Interpolation" ({ cls := "com/example/makewhole/makewhole/Interpolation", name := "dateWeight", desc := "()Lcom/example/makewhole/makewhole/Fraction;" } : Jvm.MethodName) ({ cls := "com/example/makewhole/makewhole/Interpolation", name := "dateWeight", desc := "()Lcom/example/makewhole/makewhole/Fraction;" } : Jvm.MethodName)).before a0 Z = true := hw _ (List.mem_of_getElem? (i := 65) rfl)
theorem ow66 {a0 : Array Value} {Z : State} (hw : ∀ d ∈ tables_1, d.before a0 Z = true) : (Jvm.Cond.code ({ cls := "com/example/makewhole/makewhole/Interpolation", name := "dateWeight", desc := "()Lcom/example/makewhole/makewhole/Fraction;" } : Jvm.MethodName) prog_15_method_13_code (1 : Nat) (Option.some (Jvm.ClassFile.FieldType.object "com/example/makewhole/makewhole/Fraction"))).before a0 Z = true := hw _ (List.mem_of_getElem? (i := 66) rfl)
theorem ow67 {a0 : Array Value} {Z : State} (hw : ∀ d ∈ tables_1, d.before a0 Z = true) : (Jvm.Cond.methodLink "com/example/makewhole/makewhole/InterpolationOutsidePinLaw" (42 : Nat) ({ cls := "com/example/makewhole/makewhole/Interpolation", name := "value", desc := "()Lcom/example/makewhole/makewhole/Fraction;" } : Jvm.MethodName)).before a0 Z = true := hw _ (List.mem_of_getElem? (i := 67) rfl)
theorem ow68 {a0 : Array Value} {Z : State} (hw : ∀ d ∈ tables_1, d.before a0 Z = true) : (Jvm.Cond.declares ({ cls := "com/example/makewhole/makewhole/Interpolation", name := "value", desc := "()Lcom/example/makewhole/makewhole/Fraction;" } : Jvm.MethodName)).before a0 Z = true := hw _ (List.mem_of_getElem? (i := 68) rfl)
theorem ow69 {a0 : Array Value} {Z : State} (hw : ∀ d ∈ tables_1, d.before a0 Z = true) : (Jvm.Cond.instanceMethod ({ cls := "com/example/makewhole/makewhole/Interpolation", name := "value", desc := "()Lcom/example/makewhole/makewhole/Fraction;" } : Jvm.MethodName)).before a0 Z = true := hw _ (List.mem_of_getElem? (i := 69) rfl)
theorem ow70 {a0 : Array Value} {Z : State} (hw : ∀ d ∈ tables_1, d.before a0 Z = true) : (Jvm.Cond.selects "com/example/makewhole/makewhole/Interpolation" ({ cls := "com/example/makewhole/makewhole/Interpolation", name := "value", desc := "()Lcom/example/makewhole/makewhole/Fraction;" } : Jvm.MethodName) ({ cls := "com/example/makewhole/makewhole/Interpolation", name := "value", desc := "()Lcom/example/makewhole/makewhole/Fraction;" } : Jvm.MethodName)).before a0 Z = true := hw _ (List.mem_of_getElem? (i := 70) rfl)
theorem ow71 {a0 : Array Value} {Z : State} (hw : ∀ d ∈ tables_1, d.before a0 Z = true) : (Jvm.Cond.code ({ cls := "com/example/makewhole/makewhole/Interpolation", name := "value", desc := "()Lcom/example/makewhole/makewhole/Fraction;" } : Jvm.MethodName) prog_15_method_14_code (1 : Nat) (Option.some (Jvm.ClassFile.FieldType.object "com/example/makewhole/makewhole/Fraction"))).before a0 Z = true := hw _ (List.mem_of_getElem? (i := 71) rfl)
theorem ow72 {a0 : Array Value} {Z : State} (hw : ∀ d ∈ tables_1, d.before a0 Z = true) : (Jvm.Cond.fieldLink "com/example/makewhole/makewhole/InterpolationOutsidePinLaw" (45 : Nat) "com/example/makewhole/makewhole/Fraction" "ZERO" "Lcom/example/makewhole/makewhole/Fraction;").before a0 Z = true := hw _ (List.mem_of_getElem? (i := 72) rfl)
theorem ow73 {a0 : Array Value} {Z : State} (hw : ∀ d ∈ tables_1, d.before a0 Z = true) : (Jvm.Cond.methodLink "com/example/makewhole/makewhole/InterpolationOutsidePinLaw" (51 : Nat) ({ cls := "com/example/makewhole/makewhole/Fraction", name := "equals", desc := "(Ljava/lang/Object;)Z" } : Jvm.MethodName)).before a0 Z = true := hw _ (List.mem_of_getElem? (i := 73) rfl)
theorem ow74 {a0 : Array Value} {Z : State} (hw : ∀ d ∈ tables_1, d.before a0 Z = true) : (Jvm.Cond.declares ({ cls := "com/example/makewhole/makewhole/Fraction", name := "equals", desc := "(Ljava/lang/Object;)Z" } : Jvm.MethodName)).before a0 Z = true := hw _ (List.mem_of_getElem? (i := 74) rfl)
theorem ow75 {a0 : Array Value} {Z : State} (hw : ∀ d ∈ tables_1, d.before a0 Z = true) : (Jvm.Cond.instanceMethod ({ cls := "com/example/makewhole/makewhole/Fraction", name := "equals", desc := "(Ljava/lang/Object;)Z" } : Jvm.MethodName)).before a0 Z = true := hw _ (List.mem_of_getElem? (i := 75) rfl)
theorem ow76 {a0 : Array Value} {Z : State} (hw : ∀ d ∈ tables_1, d.before a0 Z = true) : (Jvm.Cond.selects "com/example/makewhole/makewhole/Fraction" ({ cls := "com/example/makewhole/makewhole/Fraction", name := "equals", desc := "(Ljava/lang/Object;)Z" } : Jvm.MethodName) ({ cls := "com/example/makewhole/makewhole/Fraction", name := "equals", desc := "(Ljava/lang/Object;)Z" } : Jvm.MethodName)).before a0 Z = true := hw _ (List.mem_of_getElem? (i := 76) rfl)
theorem ow77 {a0 : Array Value} {Z : State} (hw : ∀ d ∈ tables_1, d.before a0 Z = true) : (Jvm.Cond.code ({ cls := "com/example/makewhole/makewhole/Fraction", name := "equals", desc := "(Ljava/lang/Object;)Z" } : Jvm.MethodName) prog_11_method_12_code (2 : Nat) (Option.some Jvm.ClassFile.FieldType.boolean)).before a0 Z = true := hw _ (List.mem_of_getElem? (i := 77) rfl)
theorem ow78 {a0 : Array Value} {Z : State} (hw : ∀ d ∈ tables_1, d.before a0 Z = true) : (Jvm.Cond.classLink "com/example/makewhole/makewhole/Fraction" (8 : Nat) "com/example/makewhole/makewhole/Fraction").before a0 Z = true := hw _ (List.mem_of_getElem? (i := 78) rfl)
theorem ow80 {a0 : Array Value} {Z : State} (hw : ∀ d ∈ tables_1, d.before a0 Z = true) : (Jvm.Cond.fieldLink "com/example/makewhole/makewhole/Fraction" (7 : Nat) "com/example/makewhole/makewhole/Fraction" "numerator" "Ljava/math/BigInteger;").before a0 Z = true := hw _ (List.mem_of_getElem? (i := 80) rfl)
theorem ow82 {a0 : Array Value} {Z : State} (hw : ∀ d ∈ tables_1, d.before a0 Z = true) : (Jvm.Cond.methodLink "com/example/makewhole/makewhole/Fraction" (120 : Nat) ({ cls := "java/math/BigInteger", name := "equals", desc := "(Ljava/lang/Object;)Z" } : Jvm.MethodName)).before a0 Z = true := hw _ (List.mem_of_getElem? (i := 82) rfl)
theorem ow83 {a0 : Array Value} {Z : State} (hw : ∀ d ∈ tables_1, d.before a0 Z = true) : (Jvm.Cond.declares ({ cls := "java/math/BigInteger", name := "equals", desc := "(Ljava/lang/Object;)Z" } : Jvm.MethodName)).before a0 Z = true := hw _ (List.mem_of_getElem? (i := 83) rfl)
theorem ow84 {a0 : Array Value} {Z : State} (hw : ∀ d ∈ tables_1, d.before a0 Z = true) : (Jvm.Cond.instanceMethod ({ cls := "java/math/BigInteger", name := "equals", desc := "(Ljava/lang/Object;)Z" } : Jvm.MethodName)).before a0 Z = true := hw _ (List.mem_of_getElem? (i := 84) rfl)
theorem ow85 {a0 : Array Value} {Z : State} (hw : ∀ d ∈ tables_1, d.before a0 Z = true) : (Jvm.Cond.selects "java/math/BigInteger" ({ cls := "java/math/BigInteger", name := "equals", desc := "(Ljava/lang/Object;)Z" } : Jvm.MethodName) ({ cls := "java/math/BigInteger", name := "equals", desc := "(Ljava/lang/Object;)Z" } : Jvm.MethodName)).before a0 Z = true := hw _ (List.mem_of_getElem? (i := 85) rfl)
theorem ow86 {a0 : Array Value} {Z : State} (hw : ∀ d ∈ tables_1, d.before a0 Z = true) : (Jvm.Cond.initialized "java/math/BigInteger").before a0 Z = true := hw _ (List.mem_of_getElem? (i := 86) rfl)
theorem ow87 {a0 : Array Value} {Z : State} (hw : ∀ d ∈ tables_1, d.before a0 Z = true) : (Jvm.Cond.code ({ cls := "java/math/BigInteger", name := "equals", desc := "(Ljava/lang/Object;)Z" } : Jvm.MethodName) jdk_2097_method_124_code (7 : Nat) (Option.some Jvm.ClassFile.FieldType.boolean)).before a0 Z = true := hw _ (List.mem_of_getElem? (i := 87) rfl)
theorem ow88 {a0 : Array Value} {Z : State} (hw : ∀ d ∈ tables_1, d.before a0 Z = true) : (Jvm.Cond.fieldLink "com/example/makewhole/makewhole/Fraction" (13 : Nat) "com/example/makewhole/makewhole/Fraction" "denominator" "Ljava/math/BigInteger;").before a0 Z = true := hw _ (List.mem_of_getElem? (i := 88) rfl)
theorem ow90 {a0 : Array Value} {Z : State} (hw : ∀ d ∈ tables_1, d.before a0 Z = true) : (Jvm.Cond.fieldLink "com/example/makewhole/makewhole/InterpolationOutsidePinLaw" (7 : Nat) "com/example/makewhole/makewhole/Interpolation$Side" "ABOVE" "Lcom/example/makewhole/makewhole/Interpolation$Side;").before a0 Z = true := hw _ (List.mem_of_getElem? (i := 90) rfl)
theorem ow91 {a0 : Array Value} {Z : State} (hw : ∀ d ∈ tables_1, d.before a0 Z = true) : (Jvm.Cond.laysStatic "com/example/makewhole/makewhole/Interpolation$Side" "ABOVE" "Lcom/example/makewhole/makewhole/Interpolation$Side;").before a0 Z = true := hw _ (List.mem_of_getElem? (i := 91) rfl)
theorem pd0 : parseMethodDescriptor "()V" = some ⟨[], none⟩ := by decide +kernel
theorem pd1 : parseMethodDescriptor "(Lcom/example/makewhole/makewhole/Interpolation$Side;Ljava/util/List;Ljava/util/List;Ljava/util/List;Lcom/example/makewhole/makewhole/Fraction;Lcom/example/makewhole/makewhole/Fraction;Lcom/example/makewhole/makewhole/Fraction;)V" = some ⟨[(.object "com/example/makewhole/makewhole/Interpolation$Side"), (.object "java/util/List"), (.object "java/util/List"), (.object "java/util/List"), (.object "com/example/makewhole/makewhole/Fraction"), (.object "com/example/makewhole/makewhole/Fraction"), (.object "com/example/makewhole/makewhole/Fraction")], none⟩ := by decide +kernel
theorem pd2 : parseMethodDescriptor "(Ljava/lang/Object;)Z" = some ⟨[(.object "java/lang/Object")], some .boolean⟩ := by decide +kernel
theorem pd3 : parseMethodDescriptor "(Lcom/example/makewhole/makewhole/Interpolation$Side;)Lcom/example/makewhole/makewhole/Interpolation;" = some ⟨[(.object "com/example/makewhole/makewhole/Interpolation$Side")], some (.object "com/example/makewhole/makewhole/Interpolation")⟩ := by decide +kernel
theorem pd4 : parseMethodDescriptor "()Lcom/example/makewhole/makewhole/Interpolation$Side;" = some ⟨[], some (.object "com/example/makewhole/makewhole/Interpolation$Side")⟩ := by decide +kernel
theorem pd5 : parseMethodDescriptor "()Ljava/util/List;" = some ⟨[], some (.object "java/util/List")⟩ := by decide +kernel
theorem pd6 : parseMethodDescriptor "()Lcom/example/makewhole/makewhole/Fraction;" = some ⟨[], some (.object "com/example/makewhole/makewhole/Fraction")⟩ := by decide +kernel
theorem pn0 : plainName "java/lang/Record" = true := by first | (simp [plainName, overriddenIn]; done) | decide +kernel
theorem pn1 : plainName "com/example/makewhole/makewhole/Interpolation" = true := by first | (simp [plainName, overriddenIn]; done) | decide +kernel
theorem pn2 : plainName "java/math/BigInteger" = true := by first | (simp [plainName, overriddenIn]; done) | decide +kernel
theorem pn3 : plainName "com/example/makewhole/makewhole/Fraction" = true := by first | (simp [plainName, overriddenIn]; done) | decide +kernel
theorem pn4 : plainName "com/example/makewhole/makewhole/InterpolationOutsidePinLaw" = true := by first | (simp [plainName, overriddenIn]; done) | decide +kernel
theorem d_jdk_30_method_1_code_0 : decode jdk_30_method_1_code 0 = .ok (.aload_n 0, 1) := by decide +kernel
theorem d_jdk_30_method_1_code_1 : decode jdk_30_method_1_code 1 = .ok (.invokespecial 1, 3) := by decide +kernel
theorem d_jdk_30_method_1_code_4 : decode jdk_30_method_1_code 4 = .ok (.return_, 1) := by decide +kernel
def Q_rmrec (Z : State) (a : Addr) (h0 : Heap) (n0 : Nat) (v : Option Value) (h : Heap) (L : List Loc) : Prop := v = none ∧ Fr n0 L ∧ h = h0
theorem ef_rmrec (m : MethodId) (a : Addr) : entryFrame m #[(.ref a)] 1 = mkF m 0 #[.val (.ref a)] [] := by first | (simp [entryFrame, mkF, argsToLocals, Value.category]; done) | rfl
set_option maxRecDepth 65536 in
set_option maxHeartbeats 40000000 in
theorem rmrec (l : Launch) (Z : State) (a0 : Array Value) (hw : ∀ d ∈ tables_1, d.before a0 Z = true) (ws : List Jvm.Cond) (a : Addr) (h0 : Heap) (n0 : Nat) (O0 : Old Z n0 h0) :
    MetFree l (⟨"java/lang/Record", "<init>", "()V"⟩ : MethodName) (head1 (Jvm.Cond.code (⟨"java/lang/Record", "<init>", "()V"⟩ : MethodName) jdk_30_method_1_code 1 none :: ws) ({ frames := 1, cells := 0, slots := 0, locals := 12 } : Room)) (fun aa U => aa = #[(.ref a)] ∧ Z.Warmed39 U.vm ∧ U.heap = h0) (fun _ _ _ _ _ => True) (fun _ U o U' => ∃ v L, o = .returned v ∧ Q_rmrec Z a h0 n0 v U'.heap L ∧ FrameEnd U o U' L ({ frames := 1, cells := 0, slots := 0, locals := 12 } : Room).cells ({ frames := 1, cells := 0, slots := 0, locals := 12 } : Room).slots) := by
  refine MetFree.of_bodySF (plainFor_of_name pn0) hisR ?_
  intro p e s m args below meth c s₁ Bd hml0 hP hK
  obtain ⟨rfl, hZ, hh⟩ := hP
  have hx := Bd.exec
  have hby := Bd.bytes
  have hml : c.maxLocals = 1 := hml0
  have hown : s.vm.findClass "java/lang/Record" = some m.cls := findClass_of_methodNamed Bd.named
  have hnm := (name_of_methodNamed Bd.named Bd.method).1
  have X0 : Stand p l e ({ frames := 1, cells := 0, slots := 0, locals := 12 } : Room) s m #[(.ref a)] below meth c s₁ [] 0 0 := Stand.of_body Bd
  have e0 : s₁.heap = h0 := by rw [← hh, Bd.state]; rfl
  have N0 := Fr.nil n0
  have K0 : Keep h0 h0 [] := Keep.refl _ _
  have pre0 : ∀ tgt, Steps p.tables e below (s₁.setTop (mkF m 0 #[.val (.ref a)] [])) tgt → Steps p.tables e below (s₁.setTop (entryFrame m #[(.ref a)] 1)) tgt := fun tgt kgo => castTop (ef_rmrec m a) kgo
  obtain ⟨T1, X1, e1, st1⟩ := initO X0 hx hZ hown (ow20 hw) (ow21 hw) (ow22 hw) e0 (g := (mkF m 1 #[.val (.ref a)] [(.ref a)])) rfl (by rw [hml]; rfl) rfl (hb hby d_jdk_30_method_1_code_1) (by decide) (W := 0) (by show 2 * 0 + _ ≤ _; exact Nat.le_of_eq rfl) (by decide)
  obtain ⟨fs, hretL, hrun, hended, hW, hsame⟩ := X1.leave (v := none) (fun _ => rfl)
  refine ⟨_, _, pre0 _ ?_, hrun, hended, _, _, rfl, ?_, ⟨_, rfl⟩, hW, hsame.mono (by decide) (by decide)⟩
  · refine XS.aloadN X0.here hx rfl (hb hby d_jdk_30_method_1_code_0) rfl rfl ?_
    show Steps p.tables e below (s₁.setTop (mkF m 1 #[.val (.ref a)] [(.ref a)])) _
    refine st1 _ ?_
    show Steps p.tables e below (T1.setTop (mkF m 4 #[.val (.ref a)] [])) _
    exact X1.returnOut hx Bd.returns (hb hby d_jdk_30_method_1_code_4) hretL
  · show Q_rmrec Z a h0 n0 _ T1.heap _
    rw [e1]
    exact ⟨rfl, N0, rfl⟩
theorem d_prog_15_method_1_code_0 : decode prog_15_method_1_code 0 = .ok (.aload_n 0, 1) := by decide +kernel
theorem d_prog_15_method_1_code_1 : decode prog_15_method_1_code 1 = .ok (.invokespecial 1, 3) := by decide +kernel
theorem d_prog_15_method_1_code_4 : decode prog_15_method_1_code 4 = .ok (.aload_n 0, 1) := by decide +kernel
theorem d_prog_15_method_1_code_5 : decode prog_15_method_1_code 5 = .ok (.aload_n 1, 1) := by decide +kernel
theorem d_prog_15_method_1_code_6 : decode prog_15_method_1_code 6 = .ok (.putfield 7, 3) := by decide +kernel
theorem d_prog_15_method_1_code_9 : decode prog_15_method_1_code 9 = .ok (.aload_n 0, 1) := by decide +kernel
theorem d_prog_15_method_1_code_10 : decode prog_15_method_1_code 10 = .ok (.aload_n 2, 1) := by decide +kernel
theorem d_prog_15_method_1_code_11 : decode prog_15_method_1_code 11 = .ok (.putfield 13, 3) := by decide +kernel
theorem d_prog_15_method_1_code_14 : decode prog_15_method_1_code 14 = .ok (.aload_n 0, 1) := by decide +kernel
theorem d_prog_15_method_1_code_15 : decode prog_15_method_1_code 15 = .ok (.aload_n 3, 1) := by decide +kernel
theorem d_prog_15_method_1_code_16 : decode prog_15_method_1_code 16 = .ok (.putfield 17, 3) := by decide +kernel
theorem d_prog_15_method_1_code_19 : decode prog_15_method_1_code 19 = .ok (.aload_n 0, 1) := by decide +kernel
theorem d_prog_15_method_1_code_20 : decode prog_15_method_1_code 20 = .ok (.aload 4, 2) := by decide +kernel
theorem d_prog_15_method_1_code_22 : decode prog_15_method_1_code 22 = .ok (.putfield 20, 3) := by decide +kernel
theorem d_prog_15_method_1_code_25 : decode prog_15_method_1_code 25 = .ok (.aload_n 0, 1) := by decide +kernel
theorem d_prog_15_method_1_code_26 : decode prog_15_method_1_code 26 = .ok (.aload 5, 2) := by decide +kernel
theorem d_prog_15_method_1_code_28 : decode prog_15_method_1_code 28 = .ok (.putfield 23, 3) := by decide +kernel
theorem d_prog_15_method_1_code_31 : decode prog_15_method_1_code 31 = .ok (.aload_n 0, 1) := by decide +kernel
theorem d_prog_15_method_1_code_32 : decode prog_15_method_1_code 32 = .ok (.aload 6, 2) := by decide +kernel
theorem d_prog_15_method_1_code_34 : decode prog_15_method_1_code 34 = .ok (.putfield 27, 3) := by decide +kernel
theorem d_prog_15_method_1_code_37 : decode prog_15_method_1_code 37 = .ok (.aload_n 0, 1) := by decide +kernel
theorem d_prog_15_method_1_code_38 : decode prog_15_method_1_code 38 = .ok (.aload 7, 2) := by decide +kernel
theorem d_prog_15_method_1_code_40 : decode prog_15_method_1_code 40 = .ok (.putfield 30, 3) := by decide +kernel
theorem d_prog_15_method_1_code_43 : decode prog_15_method_1_code 43 = .ok (.return_, 1) := by decide +kernel
def Q_rmini (Z : State) (a : Addr) (sd : Addr) (zr : Addr) (h0 : Heap) (n0 : Nat) (v : Option Value) (h : Heap) (L : List Loc) : Prop := v = none ∧ Fr n0 L ∧ Keep h0 h [a] ∧ Fld Z h a "com/example/makewhole/makewhole/Interpolation" "outside" "Lcom/example/makewhole/makewhole/Interpolation$Side;" (.ref sd) ∧ Fld Z h a "com/example/makewhole/makewhole/Interpolation" "prices" "Ljava/util/List;" .null ∧ Fld Z h a "com/example/makewhole/makewhole/Interpolation" "dates" "Ljava/util/List;" .null ∧ Fld Z h a "com/example/makewhole/makewhole/Interpolation" "cells" "Ljava/util/List;" .null ∧ Fld Z h a "com/example/makewhole/makewhole/Interpolation" "priceWeight" "Lcom/example/makewhole/makewhole/Fraction;" .null ∧ Fld Z h a "com/example/makewhole/makewhole/Interpolation" "dateWeight" "Lcom/example/makewhole/makewhole/Fraction;" .null ∧ Fld Z h a "com/example/makewhole/makewhole/Interpolation" "value" "Lcom/example/makewhole/makewhole/Fraction;" (.ref zr)
theorem ef_rmini (m : MethodId) (a : Addr) (sd : Addr) (zr : Addr) : entryFrame m #[(.ref a), (.ref sd), .null, .null, .null, .null, .null, (.ref zr)] 8 = mkF m 0 #[.val (.ref a), .val (.ref sd), .val .null, .val .null, .val .null, .val .null, .val .null, .val (.ref zr)] [] := by first | (simp [entryFrame, mkF, argsToLocals, Value.category]; done) | rfl
set_option maxRecDepth 65536 in
set_option maxHeartbeats 40000000 in
theorem rmini (l : Launch) (Z : State) (a0 : Array Value) (hw : ∀ d ∈ tables_1, d.before a0 Z = true) (ws : List Jvm.Cond) (a : Addr) (sd : Addr) (zr : Addr) (h0 : Heap) (n0 : Nat) (O0 : Old Z n0 h0) (Ea : Exa Z h0 a "com/example/makewhole/makewhole/Interpolation") (F_outside : Fld Z h0 a "com/example/makewhole/makewhole/Interpolation" "outside" "Lcom/example/makewhole/makewhole/Interpolation$Side;" .null) (F_prices : Fld Z h0 a "com/example/makewhole/makewhole/Interpolation" "prices" "Ljava/util/List;" .null) (F_dates : Fld Z h0 a "com/example/makewhole/makewhole/Interpolation" "dates" "Ljava/util/List;" .null) (F_cells : Fld Z h0 a "com/example/makewhole/makewhole/Interpolation" "cells" "Ljava/util/List;" .null) (F_priceWeight : Fld Z h0 a "com/example/makewhole/makewhole/Interpolation" "priceWeight" "Lcom/example/makewhole/makewhole/Fraction;" .null) (F_dateWeight : Fld Z h0 a "com/example/makewhole/makewhole/Interpolation" "dateWeight" "Lcom/example/makewhole/makewhole/Fraction;" .null) (F_value : Fld Z h0 a "com/example/makewhole/makewhole/Interpolation" "value" "Lcom/example/makewhole/makewhole/Fraction;" .null) (ga : n0 ≤ a) :
    MetFree l (⟨"com/example/makewhole/makewhole/Interpolation", "<init>", "(Lcom/example/makewhole/makewhole/Interpolation$Side;Ljava/util/List;Ljava/util/List;Ljava/util/List;Lcom/example/makewhole/makewhole/Fraction;Lcom/example/makewhole/makewhole/Fraction;Lcom/example/makewhole/makewhole/Fraction;)V"⟩ : MethodName) (head1 (Jvm.Cond.code (⟨"com/example/makewhole/makewhole/Interpolation", "<init>", "(Lcom/example/makewhole/makewhole/Interpolation$Side;Ljava/util/List;Ljava/util/List;Ljava/util/List;Lcom/example/makewhole/makewhole/Fraction;Lcom/example/makewhole/makewhole/Fraction;Lcom/example/makewhole/makewhole/Fraction;)V"⟩ : MethodName) prog_15_method_1_code 8 none :: ws) ({ frames := 2, cells := 0, slots := 0, locals := 24 } : Room)) (fun aa U => aa = #[(.ref a), (.ref sd), .null, .null, .null, .null, .null, (.ref zr)] ∧ Z.Warmed39 U.vm ∧ U.heap = h0) (fun _ _ _ _ _ => True) (fun _ U o U' => ∃ v L, o = .returned v ∧ Q_rmini Z a sd zr h0 n0 v U'.heap L ∧ FrameEnd U o U' L ({ frames := 2, cells := 0, slots := 0, locals := 24 } : Room).cells ({ frames := 2, cells := 0, slots := 0, locals := 24 } : Room).slots) := by
  refine MetFree.of_bodySF (plainFor_of_name pn1) hisR ?_
  intro p e s m args below meth c s₁ Bd hml0 hP hK
  obtain ⟨rfl, hZ, hh⟩ := hP
  have hx := Bd.exec
  have hby := Bd.bytes
  have hml : c.maxLocals = 8 := hml0
  have hown : s.vm.findClass "com/example/makewhole/makewhole/Interpolation" = some m.cls := findClass_of_methodNamed Bd.named
  have hnm := (name_of_methodNamed Bd.named Bd.method).1
  have X0 : Stand p l e ({ frames := 2, cells := 0, slots := 0, locals := 24 } : Room) s m #[(.ref a), (.ref sd), .null, .null, .null, .null, .null, (.ref zr)] below meth c s₁ [] 0 0 := Stand.of_body Bd
  have e0 : s₁.heap = h0 := by rw [← hh, Bd.state]; rfl
  have N0 := Fr.nil n0
  have K0 : Keep h0 h0 [a] := Keep.refl _ _
  have pre0 : ∀ tgt, Steps p.tables e below (s₁.setTop (mkF m 0 #[.val (.ref a), .val (.ref sd), .val .null, .val .null, .val .null, .val .null, .val .null, .val (.ref zr)] [])) tgt → Steps p.tables e below (s₁.setTop (entryFrame m #[(.ref a), (.ref sd), .null, .null, .null, .null, .null, (.ref zr)] 8)) tgt := fun tgt kgo => castTop (ef_rmini m a sd zr) kgo
  obtain ⟨_, _, ⟨T1, L1, k1, n1⟩, -, X1, ⟨Lc1, hQ1, l1, y1, z1⟩, st1⟩ := X0.specialBack hx (y := (⟨"java/lang/Record", "<init>", "()V"⟩ : MethodName)) rfl hown (mvT hZ (ow15 hw)) (mvT hZ (ow16 hw)) (mvT hZ (ow19 hw)) (by decide) (backOf (W := 0) (rmrec l Z a0 hw [] a  h0 n0 O0 ) hZ (ow19 hw) (ow18 hw) (by decide) (by decide)) (g := (mkF m 1 #[.val (.ref a), .val (.ref sd), .val .null, .val .null, .val .null, .val .null, .val .null, .val (.ref zr)] [(.ref a)])) rfl (by rw [hml]; rfl) (Steps.refl _) (a := a) (argsL := []) (rest := []) (lenOf pd0 rfl) rfl (by show 2 * 0 + _ ≤ _; exact Nat.le_of_eq rfl) (hb hby d_prog_15_method_1_code_1) (fun _ _ => ⟨rfl, e0, (by decide : 0 + 0 ≤ _), (by decide : 0 + 0 ≤ _)⟩)
  dsimp only [Pt.U, Pt.locs, Pt.cells, Pt.slots] at X1 l1 y1 z1 st1 hQ1
  subst l1 y1 z1
  obtain ⟨rfl, Nq1, eq1⟩ := hQ1
  have N2 := Fr.app N0 Nq1
  obtain ⟨T3, h3, X3, e3, W3, st3⟩ := putF X1 hx hZ hown (host := "") (Or.inl (ow23 hw)) Via.refl eq1 F_outside Ea (Or.inr ⟨(ow24 hw), rfl, hnm⟩) (ow8 hw) (ty := (.object "com/example/makewhole/makewhole/Interpolation$Side")) (by decide) rfl rfl (g := (mkF m 6 #[.val (.ref a), .val (.ref sd), .val .null, .val .null, .val .null, .val .null, .val .null, .val (.ref zr)] [(.ref sd), (.ref a)])) rfl rfl (hb hby d_prog_15_method_1_code_6)
  have Fw3 := F_outside.same W3
  have N4 := Fr.snoc X3 N2 ga
  have O4 := O0.wr W3 ga
  have K4 := K0.wr W3 (Or.inl (List.mem_of_getElem? (i := 0) rfl))
  have f5 := (Ea.wr W3)
  have f6 := (F_prices.other W3 (Or.inr (slot_ne (Or.inr (ow26 hw)) (Or.inr (ow24 hw)) (by decide) (t := (.object "java/util/List")) (t' := (.object "com/example/makewhole/makewhole/Interpolation$Side")) (by decide) (by decide))))
  obtain ⟨T7, h7, X7, e7, W7, st7⟩ := putF X3 hx hZ hown (host := "") (Or.inl (ow25 hw)) Via.refl e3 f6 f5 (Or.inr ⟨(ow26 hw), rfl, hnm⟩) (ow8 hw) (ty := (.object "java/util/List")) (by decide) rfl rfl (g := (mkF m 11 #[.val (.ref a), .val (.ref sd), .val .null, .val .null, .val .null, .val .null, .val .null, .val (.ref zr)] [.null, (.ref a)])) rfl rfl (hb hby d_prog_15_method_1_code_11)
  have Fw7 := f6.same W7
  have N8 := Fr.snoc X7 N4 ga
  have O8 := O4.wr W7 ga
  have K8 := K4.wr W7 (Or.inl (List.mem_of_getElem? (i := 0) rfl))
  have f9 := (f5.wr W7)
  have f10 := ((F_dates.other W3 (Or.inr (slot_ne (Or.inr (ow28 hw)) (Or.inr (ow24 hw)) (by decide) (t := (.object "java/util/List")) (t' := (.object "com/example/makewhole/makewhole/Interpolation$Side")) (by decide) (by decide)))).other W7 (Or.inr (slot_ne (Or.inr (ow28 hw)) (Or.inr (ow26 hw)) (by decide) (t := (.object "java/util/List")) (t' := (.object "java/util/List")) (by decide) (by decide))))
  obtain ⟨T11, h11, X11, e11, W11, st11⟩ := putF X7 hx hZ hown (host := "") (Or.inl (ow27 hw)) Via.refl e7 f10 f9 (Or.inr ⟨(ow28 hw), rfl, hnm⟩) (ow8 hw) (ty := (.object "java/util/List")) (by decide) rfl rfl (g := (mkF m 16 #[.val (.ref a), .val (.ref sd), .val .null, .val .null, .val .null, .val .null, .val .null, .val (.ref zr)] [.null, (.ref a)])) rfl rfl (hb hby d_prog_15_method_1_code_16)
  have Fw11 := f10.same W11
  have N12 := Fr.snoc X11 N8 ga
  have O12 := O8.wr W11 ga
  have K12 := K8.wr W11 (Or.inl (List.mem_of_getElem? (i := 0) rfl))
  have f13 := (f9.wr W11)
  have f14 := (((F_cells.other W3 (Or.inr (slot_ne (Or.inr (ow30 hw)) (Or.inr (ow24 hw)) (by decide) (t := (.object "java/util/List")) (t' := (.object "com/example/makewhole/makewhole/Interpolation$Side")) (by decide) (by decide)))).other W7 (Or.inr (slot_ne (Or.inr (ow30 hw)) (Or.inr (ow26 hw)) (by decide) (t := (.object "java/util/List")) (t' := (.object "java/util/List")) (by decide) (by decide)))).other W11 (Or.inr (slot_ne (Or.inr (ow30 hw)) (Or.inr (ow28 hw)) (by decide) (t := (.object "java/util/List")) (t' := (.object "java/util/List")) (by decide) (by decide))))
  obtain ⟨T15, h15, X15, e15, W15, st15⟩ := putF X11 hx hZ hown (host := "") (Or.inl (ow29 hw)) Via.refl e11 f14 f13 (Or.inr ⟨(ow30 hw), rfl, hnm⟩) (ow8 hw) (ty := (.object "java/util/List")) (by decide) rfl rfl (g := (mkF m 22 #[.val (.ref a), .val (.ref sd), .val .null, .val .null, .val .null, .val .null, .val .null, .val (.ref zr)] [.null, (.ref a)])) rfl rfl (hb hby d_prog_15_method_1_code_22)
  have Fw15 := f14.same W15
  have N16 := Fr.snoc X15 N12 ga
  have O16 := O12.wr W15 ga
  have K16 := K12.wr W15 (Or.inl (List.mem_of_getElem? (i := 0) rfl))
  have f17 := (f13.wr W15)
  have f18 := ((((F_priceWeight.other W3 (Or.inr (slot_ne (Or.inr (ow32 hw)) (Or.inr (ow24 hw)) (by decide) (t := (.object "com/example/makewhole/makewhole/Fraction")) (t' := (.object "com/example/makewhole/makewhole/Interpolation$Side")) (by decide) (by decide)))).other W7 (Or.inr (slot_ne (Or.inr (ow32 hw)) (Or.inr (ow26 hw)) (by decide) (t := (.object "com/example/makewhole/makewhole/Fraction")) (t' := (.object "java/util/List")) (by decide) (by decide)))).other W11 (Or.inr (slot_ne (Or.inr (ow32 hw)) (Or.inr (ow28 hw)) (by decide) (t := (.object "com/example/makewhole/makewhole/Fraction")) (t' := (.object "java/util/List")) (by decide) (by decide)))).other W15 (Or.inr (slot_ne (Or.inr (ow32 hw)) (Or.inr (ow30 hw)) (by decide) (t := (.object "com/example/makewhole/makewhole/Fraction")) (t' := (.object "java/util/List")) (by decide) (by decide))))
  obtain ⟨T19, h19, X19, e19, W19, st19⟩ := putF X15 hx hZ hown (host := "") (Or.inl (ow31 hw)) Via.refl e15 f18 f17 (Or.inr ⟨(ow32 hw), rfl, hnm⟩) (ow8 hw) (ty := (.object "com/example/makewhole/makewhole/Fraction")) (by decide) rfl rfl (g := (mkF m 28 #[.val (.ref a), .val (.ref sd), .val .null, .val .null, .val .null, .val .null, .val .null, .val (.ref zr)] [.null, (.ref a)])) rfl rfl (hb hby d_prog_15_method_1_code_28)
  have Fw19 := f18.same W19
  have N20 := Fr.snoc X19 N16 ga
  have O20 := O16.wr W19 ga
  have K20 := K16.wr W19 (Or.inl (List.mem_of_getElem? (i := 0) rfl))
  have f21 := (f17.wr W19)
  have f22 := (((((F_dateWeight.other W3 (Or.inr (slot_ne (Or.inr (ow34 hw)) (Or.inr (ow24 hw)) (by decide) (t := (.object "com/example/makewhole/makewhole/Fraction")) (t' := (.object "com/example/makewhole/makewhole/Interpolation$Side")) (by decide) (by decide)))).other W7 (Or.inr (slot_ne (Or.inr (ow34 hw)) (Or.inr (ow26 hw)) (by decide) (t := (.object "com/example/makewhole/makewhole/Fraction")) (t' := (.object "java/util/List")) (by decide) (by decide)))).other W11 (Or.inr (slot_ne (Or.inr (ow34 hw)) (Or.inr (ow28 hw)) (by decide) (t := (.object "com/example/makewhole/makewhole/Fraction")) (t' := (.object "java/util/List")) (by decide) (by decide)))).other W15 (Or.inr (slot_ne (Or.inr (ow34 hw)) (Or.inr (ow30 hw)) (by decide) (t := (.object "com/example/makewhole/makewhole/Fraction")) (t' := (.object "java/util/List")) (by decide) (by decide)))).other W19 (Or.inr (slot_ne (Or.inr (ow34 hw)) (Or.inr (ow32 hw)) (by decide) (t := (.object "com/example/makewhole/makewhole/Fraction")) (t' := (.object "com/example/makewhole/makewhole/Fraction")) (by decide) (by decide))))
  obtain ⟨T23, h23, X23, e23, W23, st23⟩ := putF X19 hx hZ hown (host := "") (Or.inl (ow33 hw)) Via.refl e19 f22 f21 (Or.inr ⟨(ow34 hw), rfl, hnm⟩) (ow8 hw) (ty := (.object "com/example/makewhole/makewhole/Fraction")) (by decide) rfl rfl (g := (mkF m 34 #[.val (.ref a), .val (.ref sd), .val .null, .val .null, .val .null, .val .null, .val .null, .val (.ref zr)] [.null, (.ref a)])) rfl rfl (hb hby d_prog_15_method_1_code_34)
  have Fw23 := f22.same W23
  have N24 := Fr.snoc X23 N20 ga
  have O24 := O20.wr W23 ga
  have K24 := K20.wr W23 (Or.inl (List.mem_of_getElem? (i := 0) rfl))
  have f25 := (f21.wr W23)
  have f26 := ((((((F_value.other W3 (Or.inr (slot_ne (Or.inr (ow36 hw)) (Or.inr (ow24 hw)) (by decide) (t := (.object "com/example/makewhole/makewhole/Fraction")) (t' := (.object "com/example/makewhole/makewhole/Interpolation$Side")) (by decide) (by decide)))).other W7 (Or.inr (slot_ne (Or.inr (ow36 hw)) (Or.inr (ow26 hw)) (by decide) (t := (.object "com/example/makewhole/makewhole/Fraction")) (t' := (.object "java/util/List")) (by decide) (by decide)))).other W11 (Or.inr (slot_ne (Or.inr (ow36 hw)) (Or.inr (ow28 hw)) (by decide) (t := (.object "com/example/makewhole/makewhole/Fraction")) (t' := (.object "java/util/List")) (by decide) (by decide)))).other W15 (Or.inr (slot_ne (Or.inr (ow36 hw)) (Or.inr (ow30 hw)) (by decide) (t := (.object "com/example/makewhole/makewhole/Fraction")) (t' := (.object "java/util/List")) (by decide) (by decide)))).other W19 (Or.inr (slot_ne (Or.inr (ow36 hw)) (Or.inr (ow32 hw)) (by decide) (t := (.object "com/example/makewhole/makewhole/Fraction")) (t' := (.object "com/example/makewhole/makewhole/Fraction")) (by decide) (by decide)))).other W23 (Or.inr (slot_ne (Or.inr (ow36 hw)) (Or.inr (ow34 hw)) (by decide) (t := (.object "com/example/makewhole/makewhole/Fraction")) (t' := (.object "com/example/makewhole/makewhole/Fraction")) (by decide) (by decide))))
  obtain ⟨T27, h27, X27, e27, W27, st27⟩ := putF X23 hx hZ hown (host := "") (Or.inl (ow35 hw)) Via.refl e23 f26 f25 (Or.inr ⟨(ow36 hw), rfl, hnm⟩) (ow8 hw) (ty := (.object "com/example/makewhole/makewhole/Fraction")) (by decide) rfl rfl (g := (mkF m 40 #[.val (.ref a), .val (.ref sd), .val .null, .val .null, .val .null, .val .null, .val .null, .val (.ref zr)] [(.ref zr), (.ref a)])) rfl rfl (hb hby d_prog_15_method_1_code_40)
  have Fw27 := f26.same W27
  have N28 := Fr.snoc X27 N24 ga
  have O28 := O24.wr W27 ga
  have K28 := K24.wr W27 (Or.inl (List.mem_of_getElem? (i := 0) rfl))
  have f29 := ((((((Fw3.other W7 (Or.inr (slot_ne (Or.inr (ow24 hw)) (Or.inr (ow26 hw)) (by decide) (t := (.object "com/example/makewhole/makewhole/Interpolation$Side")) (t' := (.object "java/util/List")) (by decide) (by decide)))).other W11 (Or.inr (slot_ne (Or.inr (ow24 hw)) (Or.inr (ow28 hw)) (by decide) (t := (.object "com/example/makewhole/makewhole/Interpolation$Side")) (t' := (.object "java/util/List")) (by decide) (by decide)))).other W15 (Or.inr (slot_ne (Or.inr (ow24 hw)) (Or.inr (ow30 hw)) (by decide) (t := (.object "com/example/makewhole/makewhole/Interpolation$Side")) (t' := (.object "java/util/List")) (by decide) (by decide)))).other W19 (Or.inr (slot_ne (Or.inr (ow24 hw)) (Or.inr (ow32 hw)) (by decide) (t := (.object "com/example/makewhole/makewhole/Interpolation$Side")) (t' := (.object "com/example/makewhole/makewhole/Fraction")) (by decide) (by decide)))).other W23 (Or.inr (slot_ne (Or.inr (ow24 hw)) (Or.inr (ow34 hw)) (by decide) (t := (.object "com/example/makewhole/makewhole/Interpolation$Side")) (t' := (.object "com/example/makewhole/makewhole/Fraction")) (by decide) (by decide)))).other W27 (Or.inr (slot_ne (Or.inr (ow24 hw)) (Or.inr (ow36 hw)) (by decide) (t := (.object "com/example/makewhole/makewhole/Interpolation$Side")) (t' := (.object "com/example/makewhole/makewhole/Fraction")) (by decide) (by decide))))
  have f30 := (((((Fw7.other W11 (Or.inr (slot_ne (Or.inr (ow26 hw)) (Or.inr (ow28 hw)) (by decide) (t := (.object "java/util/List")) (t' := (.object "java/util/List")) (by decide) (by decide)))).other W15 (Or.inr (slot_ne (Or.inr (ow26 hw)) (Or.inr (ow30 hw)) (by decide) (t := (.object "java/util/List")) (t' := (.object "java/util/List")) (by decide) (by decide)))).other W19 (Or.inr (slot_ne (Or.inr (ow26 hw)) (Or.inr (ow32 hw)) (by decide) (t := (.object "java/util/List")) (t' := (.object "com/example/makewhole/makewhole/Fraction")) (by decide) (by decide)))).other W23 (Or.inr (slot_ne (Or.inr (ow26 hw)) (Or.inr (ow34 hw)) (by decide) (t := (.object "java/util/List")) (t' := (.object "com/example/makewhole/makewhole/Fraction")) (by decide) (by decide)))).other W27 (Or.inr (slot_ne (Or.inr (ow26 hw)) (Or.inr (ow36 hw)) (by decide) (t := (.object "java/util/List")) (t' := (.object "com/example/makewhole/makewhole/Fraction")) (by decide) (by decide))))
  have f31 := ((((Fw11.other W15 (Or.inr (slot_ne (Or.inr (ow28 hw)) (Or.inr (ow30 hw)) (by decide) (t := (.object "java/util/List")) (t' := (.object "java/util/List")) (by decide) (by decide)))).other W19 (Or.inr (slot_ne (Or.inr (ow28 hw)) (Or.inr (ow32 hw)) (by decide) (t := (.object "java/util/List")) (t' := (.object "com/example/makewhole/makewhole/Fraction")) (by decide) (by decide)))).other W23 (Or.inr (slot_ne (Or.inr (ow28 hw)) (Or.inr (ow34 hw)) (by decide) (t := (.object "java/util/List")) (t' := (.object "com/example/makewhole/makewhole/Fraction")) (by decide) (by decide)))).other W27 (Or.inr (slot_ne (Or.inr (ow28 hw)) (Or.inr (ow36 hw)) (by decide) (t := (.object "java/util/List")) (t' := (.object "com/example/makewhole/makewhole/Fraction")) (by decide) (by decide))))
  have f32 := (((Fw15.other W19 (Or.inr (slot_ne (Or.inr (ow30 hw)) (Or.inr (ow32 hw)) (by decide) (t := (.object "java/util/List")) (t' := (.object "com/example/makewhole/makewhole/Fraction")) (by decide) (by decide)))).other W23 (Or.inr (slot_ne (Or.inr (ow30 hw)) (Or.inr (ow34 hw)) (by decide) (t := (.object "java/util/List")) (t' := (.object "com/example/makewhole/makewhole/Fraction")) (by decide) (by decide)))).other W27 (Or.inr (slot_ne (Or.inr (ow30 hw)) (Or.inr (ow36 hw)) (by decide) (t := (.object "java/util/List")) (t' := (.object "com/example/makewhole/makewhole/Fraction")) (by decide) (by decide))))
  have f33 := ((Fw19.other W23 (Or.inr (slot_ne (Or.inr (ow32 hw)) (Or.inr (ow34 hw)) (by decide) (t := (.object "com/example/makewhole/makewhole/Fraction")) (t' := (.object "com/example/makewhole/makewhole/Fraction")) (by decide) (by decide)))).other W27 (Or.inr (slot_ne (Or.inr (ow32 hw)) (Or.inr (ow36 hw)) (by decide) (t := (.object "com/example/makewhole/makewhole/Fraction")) (t' := (.object "com/example/makewhole/makewhole/Fraction")) (by decide) (by decide))))
  have f34 := (Fw23.other W27 (Or.inr (slot_ne (Or.inr (ow34 hw)) (Or.inr (ow36 hw)) (by decide) (t := (.object "com/example/makewhole/makewhole/Fraction")) (t' := (.object "com/example/makewhole/makewhole/Fraction")) (by decide) (by decide))))
  obtain ⟨fs, hretL, hrun, hended, hW, hsame⟩ := X27.leave (v := none) (fun _ => rfl)
  refine ⟨_, _, pre0 _ ?_, hrun, hended, _, _, rfl, ?_, ⟨_, rfl⟩, hW, hsame.mono (by decide) (by decide)⟩
  · refine XS.aloadN X0.here hx rfl (hb hby d_prog_15_method_1_code_0) rfl rfl ?_
    show Steps p.tables e below (s₁.setTop (mkF m 1 #[.val (.ref a), .val (.ref sd), .val .null, .val .null, .val .null, .val .null, .val .null, .val (.ref zr)] [(.ref a)])) _
    refine st1.trans ?_
    show Steps p.tables e below (T1.setTop (mkF m 4 #[.val (.ref a), .val (.ref sd), .val .null, .val .null, .val .null, .val .null, .val .null, .val (.ref zr)] [])) _
    refine XS.aloadN X1.here hx rfl (hb hby d_prog_15_method_1_code_4) rfl rfl ?_
    show Steps p.tables e below (T1.setTop (mkF m 5 #[.val (.ref a), .val (.ref sd), .val .null, .val .null, .val .null, .val .null, .val .null, .val (.ref zr)] [(.ref a)])) _
    refine XS.aloadN X1.here hx rfl (hb hby d_prog_15_method_1_code_5) rfl rfl ?_
    show Steps p.tables e below (T1.setTop (mkF m 6 #[.val (.ref a), .val (.ref sd), .val .null, .val .null, .val .null, .val .null, .val .null, .val (.ref zr)] [(.ref sd), (.ref a)])) _
    refine st3 _ ?_
    show Steps p.tables e below (T3.setTop (mkF m 9 #[.val (.ref a), .val (.ref sd), .val .null, .val .null, .val .null, .val .null, .val .null, .val (.ref zr)] [])) _
    refine XS.aloadN X3.here hx rfl (hb hby d_prog_15_method_1_code_9) rfl rfl ?_
    show Steps p.tables e below (T3.setTop (mkF m 10 #[.val (.ref a), .val (.ref sd), .val .null, .val .null, .val .null, .val .null, .val .null, .val (.ref zr)] [(.ref a)])) _
    refine XS.aloadN X3.here hx rfl (hb hby d_prog_15_method_1_code_10) rfl rfl ?_
    show Steps p.tables e below (T3.setTop (mkF m 11 #[.val (.ref a), .val (.ref sd), .val .null, .val .null, .val .null, .val .null, .val .null, .val (.ref zr)] [.null, (.ref a)])) _
    refine st7 _ ?_
    show Steps p.tables e below (T7.setTop (mkF m 14 #[.val (.ref a), .val (.ref sd), .val .null, .val .null, .val .null, .val .null, .val .null, .val (.ref zr)] [])) _
    refine XS.aloadN X7.here hx rfl (hb hby d_prog_15_method_1_code_14) rfl rfl ?_
    show Steps p.tables e below (T7.setTop (mkF m 15 #[.val (.ref a), .val (.ref sd), .val .null, .val .null, .val .null, .val .null, .val .null, .val (.ref zr)] [(.ref a)])) _
    refine XS.aloadN X7.here hx rfl (hb hby d_prog_15_method_1_code_15) rfl rfl ?_
    show Steps p.tables e below (T7.setTop (mkF m 16 #[.val (.ref a), .val (.ref sd), .val .null, .val .null, .val .null, .val .null, .val .null, .val (.ref zr)] [.null, (.ref a)])) _
    refine st11 _ ?_
    show Steps p.tables e below (T11.setTop (mkF m 19 #[.val (.ref a), .val (.ref sd), .val .null, .val .null, .val .null, .val .null, .val .null, .val (.ref zr)] [])) _
    refine XS.aloadN X11.here hx rfl (hb hby d_prog_15_method_1_code_19) rfl rfl ?_
    show Steps p.tables e below (T11.setTop (mkF m 20 #[.val (.ref a), .val (.ref sd), .val .null, .val .null, .val .null, .val .null, .val .null, .val (.ref zr)] [(.ref a)])) _
    refine XS.aload X11.here hx rfl (hb hby d_prog_15_method_1_code_20) rfl rfl ?_
    show Steps p.tables e below (T11.setTop (mkF m 22 #[.val (.ref a), .val (.ref sd), .val .null, .val .null, .val .null, .val .null, .val .null, .val (.ref zr)] [.null, (.ref a)])) _
    refine st15 _ ?_
    show Steps p.tables e below (T15.setTop (mkF m 25 #[.val (.ref a), .val (.ref sd), .val .null, .val .null, .val .null, .val .null, .val .null, .val (.ref zr)] [])) _
    refine XS.aloadN X15.here hx rfl (hb hby d_prog_15_method_1_code_25) rfl rfl ?_
    show Steps p.tables e below (T15.setTop (mkF m 26 #[.val (.ref a), .val (.ref sd), .val .null, .val .null, .val .null, .val .null, .val .null, .val (.ref zr)] [(.ref a)])) _
    refine XS.aload X15.here hx rfl (hb hby d_prog_15_method_1_code_26) rfl rfl ?_
    show Steps p.tables e below (T15.setTop (mkF m 28 #[.val (.ref a), .val (.ref sd), .val .null, .val .null, .val .null, .val .null, .val .null, .val (.ref zr)] [.null, (.ref a)])) _
    refine st19 _ ?_
    show Steps p.tables e below (T19.setTop (mkF m 31 #[.val (.ref a), .val (.ref sd), .val .null, .val .null, .val .null, .val .null, .val .null, .val (.ref zr)] [])) _
    refine XS.aloadN X19.here hx rfl (hb hby d_prog_15_method_1_code_31) rfl rfl ?_
    show Steps p.tables e below (T19.setTop (mkF m 32 #[.val (.ref a), .val (.ref sd), .val .null, .val .null, .val .null, .val .null, .val .null, .val (.ref zr)] [(.ref a)])) _
    refine XS.aload X19.here hx rfl (hb hby d_prog_15_method_1_code_32) rfl rfl ?_
    show Steps p.tables e below (T19.setTop (mkF m 34 #[.val (.ref a), .val (.ref sd), .val .null, .val .null, .val .null, .val .null, .val .null, .val (.ref zr)] [.null, (.ref a)])) _
    refine st23 _ ?_
    show Steps p.tables e below (T23.setTop (mkF m 37 #[.val (.ref a), .val (.ref sd), .val .null, .val .null, .val .null, .val .null, .val .null, .val (.ref zr)] [])) _
    refine XS.aloadN X23.here hx rfl (hb hby d_prog_15_method_1_code_37) rfl rfl ?_
    show Steps p.tables e below (T23.setTop (mkF m 38 #[.val (.ref a), .val (.ref sd), .val .null, .val .null, .val .null, .val .null, .val .null, .val (.ref zr)] [(.ref a)])) _
    refine XS.aload X23.here hx rfl (hb hby d_prog_15_method_1_code_38) rfl rfl ?_
    show Steps p.tables e below (T23.setTop (mkF m 40 #[.val (.ref a), .val (.ref sd), .val .null, .val .null, .val .null, .val .null, .val .null, .val (.ref zr)] [(.ref zr), (.ref a)])) _
    refine st27 _ ?_
    show Steps p.tables e below (T27.setTop (mkF m 43 #[.val (.ref a), .val (.ref sd), .val .null, .val .null, .val .null, .val .null, .val .null, .val (.ref zr)] [])) _
    exact X27.returnOut hx Bd.returns (hb hby d_prog_15_method_1_code_43) hretL
  · show Q_rmini Z a sd zr h0 n0 _ T27.heap _
    rw [e27]
    exact ⟨rfl, N28, K28, f29, f30, f31, f32, f33, f34, Fw27⟩
theorem d_prog_15_method_2_code_0 : decode prog_15_method_2_code 0 = .ok (.new 8, 3) := by decide +kernel
theorem d_prog_15_method_2_code_3 : decode prog_15_method_2_code 3 = .ok (.dup, 1) := by decide +kernel
theorem d_prog_15_method_2_code_4 : decode prog_15_method_2_code 4 = .ok (.aload_n 0, 1) := by decide +kernel
theorem d_prog_15_method_2_code_5 : decode prog_15_method_2_code 5 = .ok (.aconst_null, 1) := by decide +kernel
theorem d_prog_15_method_2_code_6 : decode prog_15_method_2_code 6 = .ok (.aconst_null, 1) := by decide +kernel
theorem d_prog_15_method_2_code_7 : decode prog_15_method_2_code 7 = .ok (.aconst_null, 1) := by decide +kernel
theorem d_prog_15_method_2_code_8 : decode prog_15_method_2_code 8 = .ok (.aconst_null, 1) := by decide +kernel
theorem d_prog_15_method_2_code_9 : decode prog_15_method_2_code 9 = .ok (.aconst_null, 1) := by decide +kernel
theorem d_prog_15_method_2_code_10 : decode prog_15_method_2_code 10 = .ok (.getstatic 33, 3) := by decide +kernel
theorem d_prog_15_method_2_code_13 : decode prog_15_method_2_code 13 = .ok (.invokespecial 38, 3) := by decide +kernel
theorem d_prog_15_method_2_code_16 : decode prog_15_method_2_code 16 = .ok (.areturn, 1) := by decide +kernel
def Q_rmmk (Z : State) (sd : Addr) (zr : Addr) (h0 : Heap) (n0 : Nat) (v : Option Value) (h : Heap) (L : List Loc) : Prop := ∃ b : Addr, v = some (.ref b) ∧ Fr n0 L ∧ Keep h0 h [] ∧ n0 ≤ b ∧ Exa Z h b "com/example/makewhole/makewhole/Interpolation" ∧ Fld Z h b "com/example/makewhole/makewhole/Interpolation" "outside" "Lcom/example/makewhole/makewhole/Interpolation$Side;" (.ref sd) ∧ Fld Z h b "com/example/makewhole/makewhole/Interpolation" "prices" "Ljava/util/List;" .null ∧ Fld Z h b "com/example/makewhole/makewhole/Interpolation" "dates" "Ljava/util/List;" .null ∧ Fld Z h b "com/example/makewhole/makewhole/Interpolation" "cells" "Ljava/util/List;" .null ∧ Fld Z h b "com/example/makewhole/makewhole/Interpolation" "priceWeight" "Lcom/example/makewhole/makewhole/Fraction;" .null ∧ Fld Z h b "com/example/makewhole/makewhole/Interpolation" "dateWeight" "Lcom/example/makewhole/makewhole/Fraction;" .null ∧ Fld Z h b "com/example/makewhole/makewhole/Interpolation" "value" "Lcom/example/makewhole/makewhole/Fraction;" (.ref zr)
theorem ef_rmmk (m : MethodId) (sd : Addr) : entryFrame m #[(.ref sd)] 1 = mkF m 0 #[.val (.ref sd)] [] := by first | (simp [entryFrame, mkF, argsToLocals, Value.category]; done) | rfl
set_option maxRecDepth 65536 in
set_option maxHeartbeats 40000000 in
theorem rmmk (l : Launch) (Z : State) (a0 : Array Value) (hw : ∀ d ∈ tables_1, d.before a0 Z = true) (ws : List Jvm.Cond) (sd : Addr) (zr : Addr) (h0 : Heap) (n0 : Nat) (O0 : Old Z n0 h0) (Sz : Sta Z Z.heap "com/example/makewhole/makewhole/Fraction" "ZERO" "Lcom/example/makewhole/makewhole/Fraction;" (.ref zr)) :
    MetFree l (⟨"com/example/makewhole/makewhole/Interpolation", "outside", "(Lcom/example/makewhole/makewhole/Interpolation$Side;)Lcom/example/makewhole/makewhole/Interpolation;"⟩ : MethodName) (head1 (Jvm.Cond.code (⟨"com/example/makewhole/makewhole/Interpolation", "outside", "(Lcom/example/makewhole/makewhole/Interpolation$Side;)Lcom/example/makewhole/makewhole/Interpolation;"⟩ : MethodName) prog_15_method_2_code 1 (some (.object "com/example/makewhole/makewhole/Interpolation")) :: ws) ({ frames := 3, cells := 1, slots := 7, locals := 44 } : Room)) (fun aa U => aa = #[(.ref sd)] ∧ Z.Warmed39 U.vm ∧ U.heap = h0) (fun _ _ _ _ _ => True) (fun _ U o U' => ∃ v L, o = .returned v ∧ Q_rmmk Z sd zr h0 n0 v U'.heap L ∧ FrameEnd U o U' L ({ frames := 3, cells := 1, slots := 7, locals := 44 } : Room).cells ({ frames := 3, cells := 1, slots := 7, locals := 44 } : Room).slots) := by
  refine MetFree.of_bodySF (plainFor_of_name pn1) hisR ?_
  intro p e s m args below meth c s₁ Bd hml0 hP hK
  obtain ⟨rfl, hZ, hh⟩ := hP
  have hx := Bd.exec
  have hby := Bd.bytes
  have hml : c.maxLocals = 1 := hml0
  have hown : s.vm.findClass "com/example/makewhole/makewhole/Interpolation" = some m.cls := findClass_of_methodNamed Bd.named
  have hnm := (name_of_methodNamed Bd.named Bd.method).1
  have X0 : Stand p l e ({ frames := 3, cells := 1, slots := 7, locals := 44 } : Room) s m #[(.ref sd)] below meth c s₁ [] 0 0 := Stand.of_body Bd
  have e0 : s₁.heap = h0 := by rw [← hh, Bd.state]; rfl
  have N0 := Fr.nil n0
  have K0 : Keep h0 h0 [] := Keep.refl _ _
  have pre0 : ∀ tgt, Steps p.tables e below (s₁.setTop (mkF m 0 #[.val (.ref sd)] [])) tgt → Steps p.tables e below (s₁.setTop (entryFrame m #[(.ref sd)] 1)) tgt := fun tgt kgo => castTop (ef_rmmk m sd) kgo
  obtain ⟨T1, h1, X1, e1, E1, A1, D1, U1, st1⟩ := newO X0 hx hZ hown (ow7 hw) (ow8 hw) (ow5 hw) e0 (g := (mkF m 0 #[.val (.ref sd)] [])) rfl (hb hby d_prog_15_method_2_code_0) (by decide) (by decide)
  obtain ⟨b1, g1⟩ : ∃ z, z = h0.size := ⟨_, rfl⟩
  rw [← g1] at A1 D1 U1 st1
  have gn1 : n0 ≤ b1 := Nat.le_trans (own_sz O0) (Nat.le_of_eq g1.symm)
  have sz1 : h0.size ≤ b1 := Nat.le_trans K0.1 (Nat.le_of_eq g1.symm)
  have O2 := O0.ext E1
  have K2 := K0.ext E1
  have Foutside_1 : Fld Z h1 b1 "com/example/makewhole/makewhole/Interpolation" "outside" "Lcom/example/makewhole/makewhole/Interpolation$Side;" .null := D1 (Or.inr (ow24 hw)) (ty := (.object "com/example/makewhole/makewhole/Interpolation$Side")) (by decide)
  have Fprices_1 : Fld Z h1 b1 "com/example/makewhole/makewhole/Interpolation" "prices" "Ljava/util/List;" .null := D1 (Or.inr (ow26 hw)) (ty := (.object "java/util/List")) (by decide)
  have Fdates_1 : Fld Z h1 b1 "com/example/makewhole/makewhole/Interpolation" "dates" "Ljava/util/List;" .null := D1 (Or.inr (ow28 hw)) (ty := (.object "java/util/List")) (by decide)
  have Fcells_1 : Fld Z h1 b1 "com/example/makewhole/makewhole/Interpolation" "cells" "Ljava/util/List;" .null := D1 (Or.inr (ow30 hw)) (ty := (.object "java/util/List")) (by decide)
  have FpriceWeight_1 : Fld Z h1 b1 "com/example/makewhole/makewhole/Interpolation" "priceWeight" "Lcom/example/makewhole/makewhole/Fraction;" .null := D1 (Or.inr (ow32 hw)) (ty := (.object "com/example/makewhole/makewhole/Fraction")) (by decide)
  have FdateWeight_1 : Fld Z h1 b1 "com/example/makewhole/makewhole/Interpolation" "dateWeight" "Lcom/example/makewhole/makewhole/Fraction;" .null := D1 (Or.inr (ow34 hw)) (ty := (.object "com/example/makewhole/makewhole/Fraction")) (by decide)
  have Fvalue_1 : Fld Z h1 b1 "com/example/makewhole/makewhole/Interpolation" "value" "Lcom/example/makewhole/makewhole/Fraction;" .null := D1 (Or.inr (ow36 hw)) (ty := (.object "com/example/makewhole/makewhole/Fraction")) (by decide)
  obtain ⟨T3, X3, e3, st3⟩ := getS2 X1 hx hZ hown (host := "") (Or.inl (ow9 hw)) Via.refl e1 (Sz.ext O2.2) (g := (mkF m 10 #[.val (.ref sd)] [.null, .null, .null, .null, .null, (.ref sd), (.ref b1), (.ref b1)])) rfl (hb hby d_prog_15_method_2_code_10)
  obtain ⟨_, _, ⟨T4, L4, k4, n4⟩, -, X4, ⟨Lc4, hQ4, l4, y4, z4⟩, st4⟩ := X3.specialBack hx (y := (⟨"com/example/makewhole/makewhole/Interpolation", "<init>", "(Lcom/example/makewhole/makewhole/Interpolation$Side;Ljava/util/List;Ljava/util/List;Ljava/util/List;Lcom/example/makewhole/makewhole/Fraction;Lcom/example/makewhole/makewhole/Fraction;Lcom/example/makewhole/makewhole/Fraction;)V"⟩ : MethodName)) rfl hown (mvT hZ (ow12 hw)) (mvT hZ (ow13 hw)) (mvT hZ (ow14 hw)) (by decide) (backOf (W := 1) (rmini l Z a0 hw [] b1 sd zr  h1 n0 O2 A1 Foutside_1 Fprices_1 Fdates_1 Fcells_1 FpriceWeight_1 FdateWeight_1 Fvalue_1 gn1) hZ (ow14 hw) (ow5 hw) (by decide) (by decide)) (g := (mkF m 13 #[.val (.ref sd)] [(.ref zr), .null, .null, .null, .null, .null, (.ref sd), (.ref b1), (.ref b1)])) rfl (by rw [hml]; rfl) (Steps.refl _) (a := b1) (argsL := [(.ref sd), .null, .null, .null, .null, .null, (.ref zr)]) (rest := [(.ref b1)]) (lenOf pd1 rfl) rfl (by show 2 * 0 + _ ≤ _; exact Nat.le_of_eq rfl) (hb hby d_prog_15_method_2_code_13) (fun _ _ => ⟨rfl, e3, (by decide : 1 + 0 ≤ _), (by decide : 7 + 0 ≤ _)⟩)
  dsimp only [Pt.U, Pt.locs, Pt.cells, Pt.slots] at X4 l4 y4 z4 st4 hQ4
  subst l4 y4 z4
  obtain ⟨rfl, Nq4, kp4, G0_4, G1_4, G2_4, G3_4, G4_4, G5_4, G6_4⟩ := hQ4
  have N5 := Fr.app N0 Nq4
  have O6 := O2.keep kp4 (allS gn1 all0)
  have K6 := K2.trans kp4 (allS (Or.inr sz1) all0)
  have f7 := (A1.keep kp4)
  obtain ⟨fs, hretL, hrun, hended, hW, hsame⟩ := X4.leave (v := some (.ref b1)) (fun h => by rw [Bd.returns] at h; cases h)
  refine ⟨_, _, pre0 _ ?_, hrun, hended, _, _, rfl, ?_, ⟨_, rfl⟩, hW, hsame.mono (by decide) (by decide)⟩
  · refine st1 _ ?_
    show Steps p.tables e below (T1.setTop (mkF m 3 #[.val (.ref sd)] [(.ref b1)])) _
    refine XS.dup X1.here hx rfl (hb hby d_prog_15_method_2_code_3) rfl rfl ?_
    show Steps p.tables e below (T1.setTop (mkF m 4 #[.val (.ref sd)] [(.ref b1), (.ref b1)])) _
    refine XS.aloadN X1.here hx rfl (hb hby d_prog_15_method_2_code_4) rfl rfl ?_
    show Steps p.tables e below (T1.setTop (mkF m 5 #[.val (.ref sd)] [(.ref sd), (.ref b1), (.ref b1)])) _
    refine XS.aconstNull X1.here hx rfl (hb hby d_prog_15_method_2_code_5) ?_
    show Steps p.tables e below (T1.setTop (mkF m 6 #[.val (.ref sd)] [.null, (.ref sd), (.ref b1), (.ref b1)])) _
    refine XS.aconstNull X1.here hx rfl (hb hby d_prog_15_method_2_code_6) ?_
    show Steps p.tables e below (T1.setTop (mkF m 7 #[.val (.ref sd)] [.null, .null, (.ref sd), (.ref b1), (.ref b1)])) _
    refine XS.aconstNull X1.here hx rfl (hb hby d_prog_15_method_2_code_7) ?_
    show Steps p.tables e below (T1.setTop (mkF m 8 #[.val (.ref sd)] [.null, .null, .null, (.ref sd), (.ref b1), (.ref b1)])) _
    refine XS.aconstNull X1.here hx rfl (hb hby d_prog_15_method_2_code_8) ?_
    show Steps p.tables e below (T1.setTop (mkF m 9 #[.val (.ref sd)] [.null, .null, .null, .null, (.ref sd), (.ref b1), (.ref b1)])) _
    refine XS.aconstNull X1.here hx rfl (hb hby d_prog_15_method_2_code_9) ?_
    show Steps p.tables e below (T1.setTop (mkF m 10 #[.val (.ref sd)] [.null, .null, .null, .null, .null, (.ref sd), (.ref b1), (.ref b1)])) _
    refine st3 _ ?_
    show Steps p.tables e below (T3.setTop (mkF m 13 #[.val (.ref sd)] [(.ref zr), .null, .null, .null, .null, .null, (.ref sd), (.ref b1), (.ref b1)])) _
    refine st4.trans ?_
    show Steps p.tables e below (T4.setTop (mkF m 16 #[.val (.ref sd)] [(.ref b1)])) _
    exact retOut X4 hx Bd.returns rfl (Or.inr (Or.inr (Or.inr (Or.inr ⟨rfl, rfl, rfl⟩)))) (hb hby d_prog_15_method_2_code_16) hretL
  · show Q_rmmk Z sd zr h0 n0 _ T4.heap _
    exact ⟨_, rfl, N5, K6, gn1, f7, G0_4, G1_4, G2_4, G3_4, G4_4, G5_4, G6_4⟩
theorem d_prog_15_method_8_code_0 : decode prog_15_method_8_code 0 = .ok (.aload_n 0, 1) := by decide +kernel
theorem d_prog_15_method_8_code_1 : decode prog_15_method_8_code 1 = .ok (.getfield 7, 3) := by decide +kernel
theorem d_prog_15_method_8_code_4 : decode prog_15_method_8_code 4 = .ok (.areturn, 1) := by decide +kernel
def Q_rmg_outside (Z : State) (a : Addr) (fv : Value) (h0 : Heap) (n0 : Nat) (v : Option Value) (h : Heap) (L : List Loc) : Prop := v = some fv ∧ Fr n0 L ∧ h = h0
theorem ef_rmg_outside (m : MethodId) (a : Addr) : entryFrame m #[(.ref a)] 1 = mkF m 0 #[.val (.ref a)] [] := by first | (simp [entryFrame, mkF, argsToLocals, Value.category]; done) | rfl
set_option maxRecDepth 65536 in
set_option maxHeartbeats 40000000 in
theorem rmg_outside (l : Launch) (Z : State) (a0 : Array Value) (hw : ∀ d ∈ tables_1, d.before a0 Z = true) (ws : List Jvm.Cond) (a : Addr) (fv : Value) (h0 : Heap) (n0 : Nat) (O0 : Old Z n0 h0) (hr : fv.isRef = true) (Fc : Fld Z h0 a "com/example/makewhole/makewhole/Interpolation" "outside" "Lcom/example/makewhole/makewhole/Interpolation$Side;" fv) :
    MetFree l (⟨"com/example/makewhole/makewhole/Interpolation", "outside", "()Lcom/example/makewhole/makewhole/Interpolation$Side;"⟩ : MethodName) (head1 (Jvm.Cond.code (⟨"com/example/makewhole/makewhole/Interpolation", "outside", "()Lcom/example/makewhole/makewhole/Interpolation$Side;"⟩ : MethodName) prog_15_method_8_code 1 (some (.object "com/example/makewhole/makewhole/Interpolation$Side")) :: ws) ({ frames := 0, cells := 0, slots := 0, locals := 0 } : Room)) (fun aa U => aa = #[(.ref a)] ∧ Z.Warmed39 U.vm ∧ U.heap = h0) (fun _ _ _ _ _ => True) (fun _ U o U' => ∃ v L, o = .returned v ∧ Q_rmg_outside Z a fv h0 n0 v U'.heap L ∧ FrameEnd U o U' L ({ frames := 0, cells := 0, slots := 0, locals := 0 } : Room).cells ({ frames := 0, cells := 0, slots := 0, locals := 0 } : Room).slots) := by
  refine MetFree.of_bodySF (plainFor_of_name pn1) hisR ?_
  intro p e s m args below meth c s₁ Bd hml0 hP hK
  obtain ⟨rfl, hZ, hh⟩ := hP
  have hx := Bd.exec
  have hby := Bd.bytes
  have hml : c.maxLocals = 1 := hml0
  have hown : s.vm.findClass "com/example/makewhole/makewhole/Interpolation" = some m.cls := findClass_of_methodNamed Bd.named
  have hnm := (name_of_methodNamed Bd.named Bd.method).1
  have X0 : Stand p l e ({ frames := 0, cells := 0, slots := 0, locals := 0 } : Room) s m #[(.ref a)] below meth c s₁ [] 0 0 := Stand.of_body Bd
  have e0 : s₁.heap = h0 := by rw [← hh, Bd.state]; rfl
  have N0 := Fr.nil n0
  have K0 : Keep h0 h0 [] := Keep.refl _ _
  have pre0 : ∀ tgt, Steps p.tables e below (s₁.setTop (mkF m 0 #[.val (.ref a)] [])) tgt → Steps p.tables e below (s₁.setTop (entryFrame m #[(.ref a)] 1)) tgt := fun tgt kgo => castTop (ef_rmg_outside m a) kgo
  obtain ⟨T1, X1, e1, st1⟩ := getF X0 hx hZ hown (host := "") (Or.inl (ow23 hw)) Via.refl e0 Fc (g := (mkF m 1 #[.val (.ref a)] [(.ref a)])) rfl rfl (hb hby d_prog_15_method_8_code_1)
  obtain ⟨fs, hretL, hrun, hended, hW, hsame⟩ := X1.leave (v := some fv) (fun h => by rw [Bd.returns] at h; cases h)
  refine ⟨_, _, pre0 _ ?_, hrun, hended, _, _, rfl, ?_, ⟨_, rfl⟩, hW, hsame.mono (by decide) (by decide)⟩
  · refine XS.aloadN X0.here hx rfl (hb hby d_prog_15_method_8_code_0) rfl rfl ?_
    show Steps p.tables e below (s₁.setTop (mkF m 1 #[.val (.ref a)] [(.ref a)])) _
    refine st1 _ ?_
    show Steps p.tables e below (T1.setTop (mkF m 4 #[.val (.ref a)] [fv])) _
    exact retOut X1 hx Bd.returns (own_nref hr) (Or.inr (Or.inr (Or.inr (Or.inr ⟨rfl, rfl, hr⟩)))) (hb hby d_prog_15_method_8_code_4) hretL
  · show Q_rmg_outside Z a fv h0 n0 _ T1.heap _
    rw [e1]
    exact ⟨rfl, N0, rfl⟩
theorem d_prog_15_method_9_code_0 : decode prog_15_method_9_code 0 = .ok (.aload_n 0, 1) := by decide +kernel
theorem d_prog_15_method_9_code_1 : decode prog_15_method_9_code 1 = .ok (.getfield 13, 3) := by decide +kernel
theorem d_prog_15_method_9_code_4 : decode prog_15_method_9_code 4 = .ok (.areturn, 1) := by decide +kernel
def Q_rmg_prices (Z : State) (a : Addr) (fv : Value) (h0 : Heap) (n0 : Nat) (v : Option Value) (h : Heap) (L : List Loc) : Prop := v = some fv ∧ Fr n0 L ∧ h = h0
theorem ef_rmg_prices (m : MethodId) (a : Addr) : entryFrame m #[(.ref a)] 1 = mkF m 0 #[.val (.ref a)] [] := by first | (simp [entryFrame, mkF, argsToLocals, Value.category]; done) | rfl
set_option maxRecDepth 65536 in
set_option maxHeartbeats 40000000 in
theorem rmg_prices (l : Launch) (Z : State) (a0 : Array Value) (hw : ∀ d ∈ tables_1, d.before a0 Z = true) (ws : List Jvm.Cond) (a : Addr) (fv : Value) (h0 : Heap) (n0 : Nat) (O0 : Old Z n0 h0) (hr : fv.isRef = true) (Fc : Fld Z h0 a "com/example/makewhole/makewhole/Interpolation" "prices" "Ljava/util/List;" fv) :
    MetFree l (⟨"com/example/makewhole/makewhole/Interpolation", "prices", "()Ljava/util/List;"⟩ : MethodName) (head1 (Jvm.Cond.code (⟨"com/example/makewhole/makewhole/Interpolation", "prices", "()Ljava/util/List;"⟩ : MethodName) prog_15_method_9_code 1 (some (.object "java/util/List")) :: ws) ({ frames := 0, cells := 0, slots := 0, locals := 0 } : Room)) (fun aa U => aa = #[(.ref a)] ∧ Z.Warmed39 U.vm ∧ U.heap = h0) (fun _ _ _ _ _ => True) (fun _ U o U' => ∃ v L, o = .returned v ∧ Q_rmg_prices Z a fv h0 n0 v U'.heap L ∧ FrameEnd U o U' L ({ frames := 0, cells := 0, slots := 0, locals := 0 } : Room).cells ({ frames := 0, cells := 0, slots := 0, locals := 0 } : Room).slots) := by
  refine MetFree.of_bodySF (plainFor_of_name pn1) hisR ?_
  intro p e s m args below meth c s₁ Bd hml0 hP hK
  obtain ⟨rfl, hZ, hh⟩ := hP
  have hx := Bd.exec
  have hby := Bd.bytes
  have hml : c.maxLocals = 1 := hml0
  have hown : s.vm.findClass "com/example/makewhole/makewhole/Interpolation" = some m.cls := findClass_of_methodNamed Bd.named
  have hnm := (name_of_methodNamed Bd.named Bd.method).1
  have X0 : Stand p l e ({ frames := 0, cells := 0, slots := 0, locals := 0 } : Room) s m #[(.ref a)] below meth c s₁ [] 0 0 := Stand.of_body Bd
  have e0 : s₁.heap = h0 := by rw [← hh, Bd.state]; rfl
  have N0 := Fr.nil n0
  have K0 : Keep h0 h0 [] := Keep.refl _ _
  have pre0 : ∀ tgt, Steps p.tables e below (s₁.setTop (mkF m 0 #[.val (.ref a)] [])) tgt → Steps p.tables e below (s₁.setTop (entryFrame m #[(.ref a)] 1)) tgt := fun tgt kgo => castTop (ef_rmg_prices m a) kgo
  obtain ⟨T1, X1, e1, st1⟩ := getF X0 hx hZ hown (host := "") (Or.inl (ow25 hw)) Via.refl e0 Fc (g := (mkF m 1 #[.val (.ref a)] [(.ref a)])) rfl rfl (hb hby d_prog_15_method_9_code_1)
  obtain ⟨fs, hretL, hrun, hended, hW, hsame⟩ := X1.leave (v := some fv) (fun h => by rw [Bd.returns] at h; cases h)
  refine ⟨_, _, pre0 _ ?_, hrun, hended, _, _, rfl, ?_, ⟨_, rfl⟩, hW, hsame.mono (by decide) (by decide)⟩
  · refine XS.aloadN X0.here hx rfl (hb hby d_prog_15_method_9_code_0) rfl rfl ?_
    show Steps p.tables e below (s₁.setTop (mkF m 1 #[.val (.ref a)] [(.ref a)])) _
    refine st1 _ ?_
    show Steps p.tables e below (T1.setTop (mkF m 4 #[.val (.ref a)] [fv])) _
    exact retOut X1 hx Bd.returns (own_nref hr) (Or.inr (Or.inr (Or.inr (Or.inr ⟨rfl, rfl, hr⟩)))) (hb hby d_prog_15_method_9_code_4) hretL
  · show Q_rmg_prices Z a fv h0 n0 _ T1.heap _
    rw [e1]
    exact ⟨rfl, N0, rfl⟩
theorem d_prog_15_method_10_code_0 : decode prog_15_method_10_code 0 = .ok (.aload_n 0, 1) := by decide +kernel
theorem d_prog_15_method_10_code_1 : decode prog_15_method_10_code 1 = .ok (.getfield 17, 3) := by decide +kernel
theorem d_prog_15_method_10_code_4 : decode prog_15_method_10_code 4 = .ok (.areturn, 1) := by decide +kernel
def Q_rmg_dates (Z : State) (a : Addr) (fv : Value) (h0 : Heap) (n0 : Nat) (v : Option Value) (h : Heap) (L : List Loc) : Prop := v = some fv ∧ Fr n0 L ∧ h = h0
theorem ef_rmg_dates (m : MethodId) (a : Addr) : entryFrame m #[(.ref a)] 1 = mkF m 0 #[.val (.ref a)] [] := by first | (simp [entryFrame, mkF, argsToLocals, Value.category]; done) | rfl
set_option maxRecDepth 65536 in
set_option maxHeartbeats 40000000 in
theorem rmg_dates (l : Launch) (Z : State) (a0 : Array Value) (hw : ∀ d ∈ tables_1, d.before a0 Z = true) (ws : List Jvm.Cond) (a : Addr) (fv : Value) (h0 : Heap) (n0 : Nat) (O0 : Old Z n0 h0) (hr : fv.isRef = true) (Fc : Fld Z h0 a "com/example/makewhole/makewhole/Interpolation" "dates" "Ljava/util/List;" fv) :
    MetFree l (⟨"com/example/makewhole/makewhole/Interpolation", "dates", "()Ljava/util/List;"⟩ : MethodName) (head1 (Jvm.Cond.code (⟨"com/example/makewhole/makewhole/Interpolation", "dates", "()Ljava/util/List;"⟩ : MethodName) prog_15_method_10_code 1 (some (.object "java/util/List")) :: ws) ({ frames := 0, cells := 0, slots := 0, locals := 0 } : Room)) (fun aa U => aa = #[(.ref a)] ∧ Z.Warmed39 U.vm ∧ U.heap = h0) (fun _ _ _ _ _ => True) (fun _ U o U' => ∃ v L, o = .returned v ∧ Q_rmg_dates Z a fv h0 n0 v U'.heap L ∧ FrameEnd U o U' L ({ frames := 0, cells := 0, slots := 0, locals := 0 } : Room).cells ({ frames := 0, cells := 0, slots := 0, locals := 0 } : Room).slots) := by
  refine MetFree.of_bodySF (plainFor_of_name pn1) hisR ?_
  intro p e s m args below meth c s₁ Bd hml0 hP hK
  obtain ⟨rfl, hZ, hh⟩ := hP
  have hx := Bd.exec
  have hby := Bd.bytes
  have hml : c.maxLocals = 1 := hml0
  have hown : s.vm.findClass "com/example/makewhole/makewhole/Interpolation" = some m.cls := findClass_of_methodNamed Bd.named
  have hnm := (name_of_methodNamed Bd.named Bd.method).1
  have X0 : Stand p l e ({ frames := 0, cells := 0, slots := 0, locals := 0 } : Room) s m #[(.ref a)] below meth c s₁ [] 0 0 := Stand.of_body Bd
  have e0 : s₁.heap = h0 := by rw [← hh, Bd.state]; rfl
  have N0 := Fr.nil n0
  have K0 : Keep h0 h0 [] := Keep.refl _ _
  have pre0 : ∀ tgt, Steps p.tables e below (s₁.setTop (mkF m 0 #[.val (.ref a)] [])) tgt → Steps p.tables e below (s₁.setTop (entryFrame m #[(.ref a)] 1)) tgt := fun tgt kgo => castTop (ef_rmg_dates m a) kgo
  obtain ⟨T1, X1, e1, st1⟩ := getF X0 hx hZ hown (host := "") (Or.inl (ow27 hw)) Via.refl e0 Fc (g := (mkF m 1 #[.val (.ref a)] [(.ref a)])) rfl rfl (hb hby d_prog_15_method_10_code_1)
  obtain ⟨fs, hretL, hrun, hended, hW, hsame⟩ := X1.leave (v := some fv) (fun h => by rw [Bd.returns] at h; cases h)
  refine ⟨_, _, pre0 _ ?_, hrun, hended, _, _, rfl, ?_, ⟨_, rfl⟩, hW, hsame.mono (by decide) (by decide)⟩
  · refine XS.aloadN X0.here hx rfl (hb hby d_prog_15_method_10_code_0) rfl rfl ?_
    show Steps p.tables e below (s₁.setTop (mkF m 1 #[.val (.ref a)] [(.ref a)])) _
    refine st1 _ ?_
    show Steps p.tables e below (T1.setTop (mkF m 4 #[.val (.ref a)] [fv])) _
    exact retOut X1 hx Bd.returns (own_nref hr) (Or.inr (Or.inr (Or.inr (Or.inr ⟨rfl, rfl, hr⟩)))) (hb hby d_prog_15_method_10_code_4) hretL
  · show Q_rmg_dates Z a fv h0 n0 _ T1.heap _
    rw [e1]
    exact ⟨rfl, N0, rfl⟩
theorem d_prog_15_method_11_code_0 : decode prog_15_method_11_code 0 = .ok (.aload_n 0, 1) := by decide +kernel
theorem d_prog_15_method_11_code_1 : decode prog_15_method_11_code 1 = .ok (.getfield 20, 3) := by decide +kernel
theorem d_prog_15_method_11_code_4 : decode prog_15_method_11_code 4 = .ok (.areturn, 1) := by decide +kernel
def Q_rmg_cells (Z : State) (a : Addr) (fv : Value) (h0 : Heap) (n0 : Nat) (v : Option Value) (h : Heap) (L : List Loc) : Prop := v = some fv ∧ Fr n0 L ∧ h = h0
theorem ef_rmg_cells (m : MethodId) (a : Addr) : entryFrame m #[(.ref a)] 1 = mkF m 0 #[.val (.ref a)] [] := by first | (simp [entryFrame, mkF, argsToLocals, Value.category]; done) | rfl
set_option maxRecDepth 65536 in
set_option maxHeartbeats 40000000 in
theorem rmg_cells (l : Launch) (Z : State) (a0 : Array Value) (hw : ∀ d ∈ tables_1, d.before a0 Z = true) (ws : List Jvm.Cond) (a : Addr) (fv : Value) (h0 : Heap) (n0 : Nat) (O0 : Old Z n0 h0) (hr : fv.isRef = true) (Fc : Fld Z h0 a "com/example/makewhole/makewhole/Interpolation" "cells" "Ljava/util/List;" fv) :
    MetFree l (⟨"com/example/makewhole/makewhole/Interpolation", "cells", "()Ljava/util/List;"⟩ : MethodName) (head1 (Jvm.Cond.code (⟨"com/example/makewhole/makewhole/Interpolation", "cells", "()Ljava/util/List;"⟩ : MethodName) prog_15_method_11_code 1 (some (.object "java/util/List")) :: ws) ({ frames := 0, cells := 0, slots := 0, locals := 0 } : Room)) (fun aa U => aa = #[(.ref a)] ∧ Z.Warmed39 U.vm ∧ U.heap = h0) (fun _ _ _ _ _ => True) (fun _ U o U' => ∃ v L, o = .returned v ∧ Q_rmg_cells Z a fv h0 n0 v U'.heap L ∧ FrameEnd U o U' L ({ frames := 0, cells := 0, slots := 0, locals := 0 } : Room).cells ({ frames := 0, cells := 0, slots := 0, locals := 0 } : Room).slots) := by
  refine MetFree.of_bodySF (plainFor_of_name pn1) hisR ?_
  intro p e s m args below meth c s₁ Bd hml0 hP hK
  obtain ⟨rfl, hZ, hh⟩ := hP
  have hx := Bd.exec
  have hby := Bd.bytes
  have hml : c.maxLocals = 1 := hml0
  have hown : s.vm.findClass "com/example/makewhole/makewhole/Interpolation" = some m.cls := findClass_of_methodNamed Bd.named
  have hnm := (name_of_methodNamed Bd.named Bd.method).1
  have X0 : Stand p l e ({ frames := 0, cells := 0, slots := 0, locals := 0 } : Room) s m #[(.ref a)] below meth c s₁ [] 0 0 := Stand.of_body Bd
  have e0 : s₁.heap = h0 := by rw [← hh, Bd.state]; rfl
  have N0 := Fr.nil n0
  have K0 : Keep h0 h0 [] := Keep.refl _ _
  have pre0 : ∀ tgt, Steps p.tables e below (s₁.setTop (mkF m 0 #[.val (.ref a)] [])) tgt → Steps p.tables e below (s₁.setTop (entryFrame m #[(.ref a)] 1)) tgt := fun tgt kgo => castTop (ef_rmg_cells m a) kgo
  obtain ⟨T1, X1, e1, st1⟩ := getF X0 hx hZ hown (host := "") (Or.inl (ow29 hw)) Via.refl e0 Fc (g := (mkF m 1 #[.val (.ref a)] [(.ref a)])) rfl rfl (hb hby d_prog_15_method_11_code_1)
  obtain ⟨fs, hretL, hrun, hended, hW, hsame⟩ := X1.leave (v := some fv) (fun h => by rw [Bd.returns] at h; cases h)
  refine ⟨_, _, pre0 _ ?_, hrun, hended, _, _, rfl, ?_, ⟨_, rfl⟩, hW, hsame.mono (by decide) (by decide)⟩
  · refine XS.aloadN X0.here hx rfl (hb hby d_prog_15_method_11_code_0) rfl rfl ?_
    show Steps p.tables e below (s₁.setTop (mkF m 1 #[.val (.ref a)] [(.ref a)])) _
    refine st1 _ ?_
    show Steps p.tables e below (T1.setTop (mkF m 4 #[.val (.ref a)] [fv])) _
    exact retOut X1 hx Bd.returns (own_nref hr) (Or.inr (Or.inr (Or.inr (Or.inr ⟨rfl, rfl, hr⟩)))) (hb hby d_prog_15_method_11_code_4) hretL
  · show Q_rmg_cells Z a fv h0 n0 _ T1.heap _
    rw [e1]
    exact ⟨rfl, N0, rfl⟩
theorem d_prog_15_method_12_code_0 : decode prog_15_method_12_code 0 = .ok (.aload_n 0, 1) := by decide +kernel
theorem d_prog_15_method_12_code_1 : decode prog_15_method_12_code 1 = .ok (.getfield 23, 3) := by decide +kernel
theorem d_prog_15_method_12_code_4 : decode prog_15_method_12_code 4 = .ok (.areturn, 1) := by decide +kernel
def Q_rmg_priceWeight (Z : State) (a : Addr) (fv : Value) (h0 : Heap) (n0 : Nat) (v : Option Value) (h : Heap) (L : List Loc) : Prop := v = some fv ∧ Fr n0 L ∧ h = h0
theorem ef_rmg_priceWeight (m : MethodId) (a : Addr) : entryFrame m #[(.ref a)] 1 = mkF m 0 #[.val (.ref a)] [] := by first | (simp [entryFrame, mkF, argsToLocals, Value.category]; done) | rfl
set_option maxRecDepth 65536 in
set_option maxHeartbeats 40000000 in
theorem rmg_priceWeight (l : Launch) (Z : State) (a0 : Array Value) (hw : ∀ d ∈ tables_1, d.before a0 Z = true) (ws : List Jvm.Cond) (a : Addr) (fv : Value) (h0 : Heap) (n0 : Nat) (O0 : Old Z n0 h0) (hr : fv.isRef = true) (Fc : Fld Z h0 a "com/example/makewhole/makewhole/Interpolation" "priceWeight" "Lcom/example/makewhole/makewhole/Fraction;" fv) :
    MetFree l (⟨"com/example/makewhole/makewhole/Interpolation", "priceWeight", "()Lcom/example/makewhole/makewhole/Fraction;"⟩ : MethodName) (head1 (Jvm.Cond.code (⟨"com/example/makewhole/makewhole/Interpolation", "priceWeight", "()Lcom/example/makewhole/makewhole/Fraction;"⟩ : MethodName) prog_15_method_12_code 1 (some (.object "com/example/makewhole/makewhole/Fraction")) :: ws) ({ frames := 0, cells := 0, slots := 0, locals := 0 } : Room)) (fun aa U => aa = #[(.ref a)] ∧ Z.Warmed39 U.vm ∧ U.heap = h0) (fun _ _ _ _ _ => True) (fun _ U o U' => ∃ v L, o = .returned v ∧ Q_rmg_priceWeight Z a fv h0 n0 v U'.heap L ∧ FrameEnd U o U' L ({ frames := 0, cells := 0, slots := 0, locals := 0 } : Room).cells ({ frames := 0, cells := 0, slots := 0, locals := 0 } : Room).slots) := by
  refine MetFree.of_bodySF (plainFor_of_name pn1) hisR ?_
  intro p e s m args below meth c s₁ Bd hml0 hP hK
  obtain ⟨rfl, hZ, hh⟩ := hP
  have hx := Bd.exec
  have hby := Bd.bytes
  have hml : c.maxLocals = 1 := hml0
  have hown : s.vm.findClass "com/example/makewhole/makewhole/Interpolation" = some m.cls := findClass_of_methodNamed Bd.named
  have hnm := (name_of_methodNamed Bd.named Bd.method).1
  have X0 : Stand p l e ({ frames := 0, cells := 0, slots := 0, locals := 0 } : Room) s m #[(.ref a)] below meth c s₁ [] 0 0 := Stand.of_body Bd
  have e0 : s₁.heap = h0 := by rw [← hh, Bd.state]; rfl
  have N0 := Fr.nil n0
  have K0 : Keep h0 h0 [] := Keep.refl _ _
  have pre0 : ∀ tgt, Steps p.tables e below (s₁.setTop (mkF m 0 #[.val (.ref a)] [])) tgt → Steps p.tables e below (s₁.setTop (entryFrame m #[(.ref a)] 1)) tgt := fun tgt kgo => castTop (ef_rmg_priceWeight m a) kgo
  obtain ⟨T1, X1, e1, st1⟩ := getF X0 hx hZ hown (host := "") (Or.inl (ow31 hw)) Via.refl e0 Fc (g := (mkF m 1 #[.val (.ref a)] [(.ref a)])) rfl rfl (hb hby d_prog_15_method_12_code_1)
  obtain ⟨fs, hretL, hrun, hended, hW, hsame⟩ := X1.leave (v := some fv) (fun h => by rw [Bd.returns] at h; cases h)
  refine ⟨_, _, pre0 _ ?_, hrun, hended, _, _, rfl, ?_, ⟨_, rfl⟩, hW, hsame.mono (by decide) (by decide)⟩
  · refine XS.aloadN X0.here hx rfl (hb hby d_prog_15_method_12_code_0) rfl rfl ?_
    show Steps p.tables e below (s₁.setTop (mkF m 1 #[.val (.ref a)] [(.ref a)])) _
    refine st1 _ ?_
    show Steps p.tables e below (T1.setTop (mkF m 4 #[.val (.ref a)] [fv])) _
    exact retOut X1 hx Bd.returns (own_nref hr) (Or.inr (Or.inr (Or.inr (Or.inr ⟨rfl, rfl, hr⟩)))) (hb hby d_prog_15_method_12_code_4) hretL
  · show Q_rmg_priceWeight Z a fv h0 n0 _ T1.heap _
    rw [e1]
    exact ⟨rfl, N0, rfl⟩
theorem d_prog_15_method_13_code_0 : decode prog_15_method_13_code 0 = .ok (.aload_n 0, 1) := by decide +kernel
theorem d_prog_15_method_13_code_1 : decode prog_15_method_13_code 1 = .ok (.getfield 27, 3) := by decide +kernel
theorem d_prog_15_method_13_code_4 : decode prog_15_method_13_code 4 = .ok (.areturn, 1) := by decide +kernel
def Q_rmg_dateWeight (Z : State) (a : Addr) (fv : Value) (h0 : Heap) (n0 : Nat) (v : Option Value) (h : Heap) (L : List Loc) : Prop := v = some fv ∧ Fr n0 L ∧ h = h0
theorem ef_rmg_dateWeight (m : MethodId) (a : Addr) : entryFrame m #[(.ref a)] 1 = mkF m 0 #[.val (.ref a)] [] := by first | (simp [entryFrame, mkF, argsToLocals, Value.category]; done) | rfl
set_option maxRecDepth 65536 in
set_option maxHeartbeats 40000000 in
theorem rmg_dateWeight (l : Launch) (Z : State) (a0 : Array Value) (hw : ∀ d ∈ tables_1, d.before a0 Z = true) (ws : List Jvm.Cond) (a : Addr) (fv : Value) (h0 : Heap) (n0 : Nat) (O0 : Old Z n0 h0) (hr : fv.isRef = true) (Fc : Fld Z h0 a "com/example/makewhole/makewhole/Interpolation" "dateWeight" "Lcom/example/makewhole/makewhole/Fraction;" fv) :
    MetFree l (⟨"com/example/makewhole/makewhole/Interpolation", "dateWeight", "()Lcom/example/makewhole/makewhole/Fraction;"⟩ : MethodName) (head1 (Jvm.Cond.code (⟨"com/example/makewhole/makewhole/Interpolation", "dateWeight", "()Lcom/example/makewhole/makewhole/Fraction;"⟩ : MethodName) prog_15_method_13_code 1 (some (.object "com/example/makewhole/makewhole/Fraction")) :: ws) ({ frames := 0, cells := 0, slots := 0, locals := 0 } : Room)) (fun aa U => aa = #[(.ref a)] ∧ Z.Warmed39 U.vm ∧ U.heap = h0) (fun _ _ _ _ _ => True) (fun _ U o U' => ∃ v L, o = .returned v ∧ Q_rmg_dateWeight Z a fv h0 n0 v U'.heap L ∧ FrameEnd U o U' L ({ frames := 0, cells := 0, slots := 0, locals := 0 } : Room).cells ({ frames := 0, cells := 0, slots := 0, locals := 0 } : Room).slots) := by
  refine MetFree.of_bodySF (plainFor_of_name pn1) hisR ?_
  intro p e s m args below meth c s₁ Bd hml0 hP hK
  obtain ⟨rfl, hZ, hh⟩ := hP
  have hx := Bd.exec
  have hby := Bd.bytes
  have hml : c.maxLocals = 1 := hml0
  have hown : s.vm.findClass "com/example/makewhole/makewhole/Interpolation" = some m.cls := findClass_of_methodNamed Bd.named
  have hnm := (name_of_methodNamed Bd.named Bd.method).1
  have X0 : Stand p l e ({ frames := 0, cells := 0, slots := 0, locals := 0 } : Room) s m #[(.ref a)] below meth c s₁ [] 0 0 := Stand.of_body Bd
  have e0 : s₁.heap = h0 := by rw [← hh, Bd.state]; rfl
  have N0 := Fr.nil n0
  have K0 : Keep h0 h0 [] := Keep.refl _ _
  have pre0 : ∀ tgt, Steps p.tables e below (s₁.setTop (mkF m 0 #[.val (.ref a)] [])) tgt → Steps p.tables e below (s₁.setTop (entryFrame m #[(.ref a)] 1)) tgt := fun tgt kgo => castTop (ef_rmg_dateWeight m a) kgo
  obtain ⟨T1, X1, e1, st1⟩ := getF X0 hx hZ hown (host := "") (Or.inl (ow33 hw)) Via.refl e0 Fc (g := (mkF m 1 #[.val (.ref a)] [(.ref a)])) rfl rfl (hb hby d_prog_15_method_13_code_1)
  obtain ⟨fs, hretL, hrun, hended, hW, hsame⟩ := X1.leave (v := some fv) (fun h => by rw [Bd.returns] at h; cases h)
  refine ⟨_, _, pre0 _ ?_, hrun, hended, _, _, rfl, ?_, ⟨_, rfl⟩, hW, hsame.mono (by decide) (by decide)⟩
  · refine XS.aloadN X0.here hx rfl (hb hby d_prog_15_method_13_code_0) rfl rfl ?_
    show Steps p.tables e below (s₁.setTop (mkF m 1 #[.val (.ref a)] [(.ref a)])) _
    refine st1 _ ?_
    show Steps p.tables e below (T1.setTop (mkF m 4 #[.val (.ref a)] [fv])) _
    exact retOut X1 hx Bd.returns (own_nref hr) (Or.inr (Or.inr (Or.inr (Or.inr ⟨rfl, rfl, hr⟩)))) (hb hby d_prog_15_method_13_code_4) hretL
  · show Q_rmg_dateWeight Z a fv h0 n0 _ T1.heap _
    rw [e1]
    exact ⟨rfl, N0, rfl⟩
theorem d_prog_15_method_14_code_0 : decode prog_15_method_14_code 0 = .ok (.aload_n 0, 1) := by decide +kernel
theorem d_prog_15_method_14_code_1 : decode prog_15_method_14_code 1 = .ok (.getfield 30, 3) := by decide +kernel
theorem d_prog_15_method_14_code_4 : decode prog_15_method_14_code 4 = .ok (.areturn, 1) := by decide +kernel
def Q_rmg_value (Z : State) (a : Addr) (fv : Value) (h0 : Heap) (n0 : Nat) (v : Option Value) (h : Heap) (L : List Loc) : Prop := v = some fv ∧ Fr n0 L ∧ h = h0
theorem ef_rmg_value (m : MethodId) (a : Addr) : entryFrame m #[(.ref a)] 1 = mkF m 0 #[.val (.ref a)] [] := by first | (simp [entryFrame, mkF, argsToLocals, Value.category]; done) | rfl
set_option maxRecDepth 65536 in
set_option maxHeartbeats 40000000 in
theorem rmg_value (l : Launch) (Z : State) (a0 : Array Value) (hw : ∀ d ∈ tables_1, d.before a0 Z = true) (ws : List Jvm.Cond) (a : Addr) (fv : Value) (h0 : Heap) (n0 : Nat) (O0 : Old Z n0 h0) (hr : fv.isRef = true) (Fc : Fld Z h0 a "com/example/makewhole/makewhole/Interpolation" "value" "Lcom/example/makewhole/makewhole/Fraction;" fv) :
    MetFree l (⟨"com/example/makewhole/makewhole/Interpolation", "value", "()Lcom/example/makewhole/makewhole/Fraction;"⟩ : MethodName) (head1 (Jvm.Cond.code (⟨"com/example/makewhole/makewhole/Interpolation", "value", "()Lcom/example/makewhole/makewhole/Fraction;"⟩ : MethodName) prog_15_method_14_code 1 (some (.object "com/example/makewhole/makewhole/Fraction")) :: ws) ({ frames := 0, cells := 0, slots := 0, locals := 0 } : Room)) (fun aa U => aa = #[(.ref a)] ∧ Z.Warmed39 U.vm ∧ U.heap = h0) (fun _ _ _ _ _ => True) (fun _ U o U' => ∃ v L, o = .returned v ∧ Q_rmg_value Z a fv h0 n0 v U'.heap L ∧ FrameEnd U o U' L ({ frames := 0, cells := 0, slots := 0, locals := 0 } : Room).cells ({ frames := 0, cells := 0, slots := 0, locals := 0 } : Room).slots) := by
  refine MetFree.of_bodySF (plainFor_of_name pn1) hisR ?_
  intro p e s m args below meth c s₁ Bd hml0 hP hK
  obtain ⟨rfl, hZ, hh⟩ := hP
  have hx := Bd.exec
  have hby := Bd.bytes
  have hml : c.maxLocals = 1 := hml0
  have hown : s.vm.findClass "com/example/makewhole/makewhole/Interpolation" = some m.cls := findClass_of_methodNamed Bd.named
  have hnm := (name_of_methodNamed Bd.named Bd.method).1
  have X0 : Stand p l e ({ frames := 0, cells := 0, slots := 0, locals := 0 } : Room) s m #[(.ref a)] below meth c s₁ [] 0 0 := Stand.of_body Bd
  have e0 : s₁.heap = h0 := by rw [← hh, Bd.state]; rfl
  have N0 := Fr.nil n0
  have K0 : Keep h0 h0 [] := Keep.refl _ _
  have pre0 : ∀ tgt, Steps p.tables e below (s₁.setTop (mkF m 0 #[.val (.ref a)] [])) tgt → Steps p.tables e below (s₁.setTop (entryFrame m #[(.ref a)] 1)) tgt := fun tgt kgo => castTop (ef_rmg_value m a) kgo
  obtain ⟨T1, X1, e1, st1⟩ := getF X0 hx hZ hown (host := "") (Or.inl (ow35 hw)) Via.refl e0 Fc (g := (mkF m 1 #[.val (.ref a)] [(.ref a)])) rfl rfl (hb hby d_prog_15_method_14_code_1)
  obtain ⟨fs, hretL, hrun, hended, hW, hsame⟩ := X1.leave (v := some fv) (fun h => by rw [Bd.returns] at h; cases h)
  refine ⟨_, _, pre0 _ ?_, hrun, hended, _, _, rfl, ?_, ⟨_, rfl⟩, hW, hsame.mono (by decide) (by decide)⟩
  · refine XS.aloadN X0.here hx rfl (hb hby d_prog_15_method_14_code_0) rfl rfl ?_
    show Steps p.tables e below (s₁.setTop (mkF m 1 #[.val (.ref a)] [(.ref a)])) _
    refine st1 _ ?_
    show Steps p.tables e below (T1.setTop (mkF m 4 #[.val (.ref a)] [fv])) _
    exact retOut X1 hx Bd.returns (own_nref hr) (Or.inr (Or.inr (Or.inr (Or.inr ⟨rfl, rfl, hr⟩)))) (hb hby d_prog_15_method_14_code_4) hretL
  · show Q_rmg_value Z a fv h0 n0 _ T1.heap _
    rw [e1]
    exact ⟨rfl, N0, rfl⟩
theorem d_jdk_2097_method_124_code_0 : decode jdk_2097_method_124_code 0 = .ok (.aload_n 1, 1) := by decide +kernel
theorem d_jdk_2097_method_124_code_1 : decode jdk_2097_method_124_code 1 = .ok (.aload_n 0, 1) := by decide +kernel
theorem d_jdk_2097_method_124_code_2 : decode jdk_2097_method_124_code 2 = .ok (.if_acmp .ne 5, 3) := by decide +kernel
theorem d_jdk_2097_method_124_code_5 : decode jdk_2097_method_124_code 5 = .ok (.iconst 1, 1) := by decide +kernel
theorem d_jdk_2097_method_124_code_6 : decode jdk_2097_method_124_code 6 = .ok (.ireturn, 1) := by decide +kernel
def Q_rmbeq (Z : State) (a : Addr) (h0 : Heap) (n0 : Nat) (v : Option Value) (h : Heap) (L : List Loc) : Prop := v = some (.int (1 : Int32)) ∧ Fr n0 L ∧ h = h0
theorem ef_rmbeq (m : MethodId) (a : Addr) : entryFrame m #[(.ref a), (.ref a)] 7 = mkF m 0 #[.val (.ref a), .val (.ref a), .unset, .unset, .unset, .unset, .unset] [] := by first | (simp [entryFrame, mkF, argsToLocals, Value.category]; done) | rfl
set_option maxRecDepth 65536 in
set_option maxHeartbeats 40000000 in
theorem rmbeq (l : Launch) (Z : State) (a0 : Array Value) (hw : ∀ d ∈ tables_1, d.before a0 Z = true) (ws : List Jvm.Cond) (a : Addr) (h0 : Heap) (n0 : Nat) (O0 : Old Z n0 h0) :
    MetFree l (⟨"java/math/BigInteger", "equals", "(Ljava/lang/Object;)Z"⟩ : MethodName) (head1 (Jvm.Cond.code (⟨"java/math/BigInteger", "equals", "(Ljava/lang/Object;)Z"⟩ : MethodName) jdk_2097_method_124_code 7 (some .boolean) :: ws) ({ frames := 0, cells := 0, slots := 0, locals := 0 } : Room)) (fun aa U => aa = #[(.ref a), (.ref a)] ∧ Z.Warmed39 U.vm ∧ U.heap = h0) (fun _ _ _ _ _ => True) (fun _ U o U' => ∃ v L, o = .returned v ∧ Q_rmbeq Z a h0 n0 v U'.heap L ∧ FrameEnd U o U' L ({ frames := 0, cells := 0, slots := 0, locals := 0 } : Room).cells ({ frames := 0, cells := 0, slots := 0, locals := 0 } : Room).slots) := by
  refine MetFree.of_bodySF (plainFor_of_name pn2) hisR ?_
  intro p e s m args below meth c s₁ Bd hml0 hP hK
  obtain ⟨rfl, hZ, hh⟩ := hP
  have hx := Bd.exec
  have hby := Bd.bytes
  have hml : c.maxLocals = 7 := hml0
  have hown : s.vm.findClass "java/math/BigInteger" = some m.cls := findClass_of_methodNamed Bd.named
  have hnm := (name_of_methodNamed Bd.named Bd.method).1
  have X0 : Stand p l e ({ frames := 0, cells := 0, slots := 0, locals := 0 } : Room) s m #[(.ref a), (.ref a)] below meth c s₁ [] 0 0 := Stand.of_body Bd
  have e0 : s₁.heap = h0 := by rw [← hh, Bd.state]; rfl
  have N0 := Fr.nil n0
  have K0 : Keep h0 h0 [] := Keep.refl _ _
  have pre0 : ∀ tgt, Steps p.tables e below (s₁.setTop (mkF m 0 #[.val (.ref a), .val (.ref a), .unset, .unset, .unset, .unset, .unset] [])) tgt → Steps p.tables e below (s₁.setTop (entryFrame m #[(.ref a), (.ref a)] 7)) tgt := fun tgt kgo => castTop (ef_rmbeq m a) kgo
  obtain ⟨fs, hretL, hrun, hended, hW, hsame⟩ := X0.leave (v := some (.int (1 : Int32))) (fun h => by rw [Bd.returns] at h; cases h)
  refine ⟨_, _, pre0 _ ?_, hrun, hended, _, _, rfl, ?_, ⟨_, rfl⟩, hW, hsame.mono (by decide) (by decide)⟩
  · refine XS.aloadN X0.here hx rfl (hb hby d_jdk_2097_method_124_code_0) rfl rfl ?_
    show Steps p.tables e below (s₁.setTop (mkF m 1 #[.val (.ref a), .val (.ref a), .unset, .unset, .unset, .unset, .unset] [(.ref a)])) _
    refine XS.aloadN X0.here hx rfl (hb hby d_jdk_2097_method_124_code_1) rfl rfl ?_
    show Steps p.tables e below (s₁.setTop (mkF m 2 #[.val (.ref a), .val (.ref a), .unset, .unset, .unset, .unset, .unset] [(.ref a), (.ref a)])) _
    refine Jvm.RoadKit.acmp (g := (mkF m 2 #[.val (.ref a), .val (.ref a), .unset, .unset, .unset, .unset, .unset] [(.ref a), (.ref a)])) X0 hx rfl rfl rfl (pc0 := 2) (pc' := 5) (same := true) rfl (hb hby d_jdk_2097_method_124_code_2) rfl (decide_eq_true (congrArg Value.ref rfl)) (by decide) (by decide) ?_
    show Steps p.tables e below (s₁.setTop (mkF m 5 #[.val (.ref a), .val (.ref a), .unset, .unset, .unset, .unset, .unset] [])) _
    refine XS.iconst X0.here hx rfl (hb hby d_jdk_2097_method_124_code_5) ?_
    show Steps p.tables e below (s₁.setTop (mkF m 6 #[.val (.ref a), .val (.ref a), .unset, .unset, .unset, .unset, .unset] [(.int (1 : Int32))])) _
    exact retOut X0 hx Bd.returns rfl (Or.inl ⟨rfl, Or.inr (Or.inl rfl), _, rfl⟩) (hb hby d_jdk_2097_method_124_code_6) hretL
  · show Q_rmbeq Z a h0 n0 _ s₁.heap _
    rw [e0]
    exact ⟨rfl, N0, rfl⟩
theorem d_prog_11_method_12_code_0 : decode prog_11_method_12_code 0 = .ok (.aload_n 1, 1) := by decide +kernel
theorem d_prog_11_method_12_code_1 : decode prog_11_method_12_code 1 = .ok (.instanceof 8, 3) := by decide +kernel
theorem d_prog_11_method_12_code_4 : decode prog_11_method_12_code 4 = .ok (.ifCond .eq 41, 3) := by decide +kernel
theorem d_prog_11_method_12_code_7 : decode prog_11_method_12_code 7 = .ok (.aload_n 0, 1) := by decide +kernel
theorem d_prog_11_method_12_code_8 : decode prog_11_method_12_code 8 = .ok (.getfield 7, 3) := by decide +kernel
theorem d_prog_11_method_12_code_11 : decode prog_11_method_12_code 11 = .ok (.aload_n 1, 1) := by decide +kernel
theorem d_prog_11_method_12_code_12 : decode prog_11_method_12_code 12 = .ok (.checkcast 8, 3) := by decide +kernel
theorem d_prog_11_method_12_code_15 : decode prog_11_method_12_code 15 = .ok (.getfield 7, 3) := by decide +kernel
theorem d_prog_11_method_12_code_18 : decode prog_11_method_12_code 18 = .ok (.invokevirtual 120, 3) := by decide +kernel
theorem d_prog_11_method_12_code_21 : decode prog_11_method_12_code 21 = .ok (.ifCond .eq 24, 3) := by decide +kernel
theorem d_prog_11_method_12_code_24 : decode prog_11_method_12_code 24 = .ok (.aload_n 0, 1) := by decide +kernel
theorem d_prog_11_method_12_code_25 : decode prog_11_method_12_code 25 = .ok (.getfield 13, 3) := by decide +kernel
theorem d_prog_11_method_12_code_28 : decode prog_11_method_12_code 28 = .ok (.aload_n 1, 1) := by decide +kernel
theorem d_prog_11_method_12_code_29 : decode prog_11_method_12_code 29 = .ok (.checkcast 8, 3) := by decide +kernel
theorem d_prog_11_method_12_code_32 : decode prog_11_method_12_code 32 = .ok (.getfield 13, 3) := by decide +kernel
theorem d_prog_11_method_12_code_35 : decode prog_11_method_12_code 35 = .ok (.invokevirtual 120, 3) := by decide +kernel
theorem d_prog_11_method_12_code_38 : decode prog_11_method_12_code 38 = .ok (.ifCond .eq 7, 3) := by decide +kernel
theorem d_prog_11_method_12_code_41 : decode prog_11_method_12_code 41 = .ok (.iconst 1, 1) := by decide +kernel
theorem d_prog_11_method_12_code_42 : decode prog_11_method_12_code 42 = .ok (.goto 4, 3) := by decide +kernel
theorem d_prog_11_method_12_code_46 : decode prog_11_method_12_code 46 = .ok (.ireturn, 1) := by decide +kernel
def Q_rmfeq (Z : State) (a : Addr) (nu : Addr) (de : Addr) (h0 : Heap) (n0 : Nat) (v : Option Value) (h : Heap) (L : List Loc) : Prop := v = some (.int (1 : Int32)) ∧ Fr n0 L ∧ h = h0
theorem ef_rmfeq (m : MethodId) (a : Addr) : entryFrame m #[(.ref a), (.ref a)] 2 = mkF m 0 #[.val (.ref a), .val (.ref a)] [] := by first | (simp [entryFrame, mkF, argsToLocals, Value.category]; done) | rfl
set_option maxRecDepth 65536 in
set_option maxHeartbeats 40000000 in
theorem rmfeq (l : Launch) (Z : State) (a0 : Array Value) (hw : ∀ d ∈ tables_1, d.before a0 Z = true) (ws : List Jvm.Cond) (a : Addr) (nu : Addr) (de : Addr) (h0 : Heap) (n0 : Nat) (O0 : Old Z n0 h0) (Ea : Exa Z h0 a "com/example/makewhole/makewhole/Fraction") (Fn : Fld Z h0 a "com/example/makewhole/makewhole/Fraction" "numerator" "Ljava/math/BigInteger;" (.ref nu)) (Fd : Fld Z h0 a "com/example/makewhole/makewhole/Fraction" "denominator" "Ljava/math/BigInteger;" (.ref de)) (En : Exa Z h0 nu "java/math/BigInteger") (Ed : Exa Z h0 de "java/math/BigInteger") :
    MetFree l (⟨"com/example/makewhole/makewhole/Fraction", "equals", "(Ljava/lang/Object;)Z"⟩ : MethodName) (head1 (Jvm.Cond.code (⟨"com/example/makewhole/makewhole/Fraction", "equals", "(Ljava/lang/Object;)Z"⟩ : MethodName) prog_11_method_12_code 2 (some .boolean) :: ws) ({ frames := 1, cells := 0, slots := 0, locals := 18 } : Room)) (fun aa U => aa = #[(.ref a), (.ref a)] ∧ Z.Warmed39 U.vm ∧ U.heap = h0) (fun _ _ _ _ _ => True) (fun _ U o U' => ∃ v L, o = .returned v ∧ Q_rmfeq Z a nu de h0 n0 v U'.heap L ∧ FrameEnd U o U' L ({ frames := 1, cells := 0, slots := 0, locals := 18 } : Room).cells ({ frames := 1, cells := 0, slots := 0, locals := 18 } : Room).slots) := by
  refine MetFree.of_bodySF (plainFor_of_name pn3) hisR ?_
  intro p e s m args below meth c s₁ Bd hml0 hP hK
  obtain ⟨rfl, hZ, hh⟩ := hP
  have hx := Bd.exec
  have hby := Bd.bytes
  have hml : c.maxLocals = 2 := hml0
  have hown : s.vm.findClass "com/example/makewhole/makewhole/Fraction" = some m.cls := findClass_of_methodNamed Bd.named
  have hnm := (name_of_methodNamed Bd.named Bd.method).1
  have X0 : Stand p l e ({ frames := 1, cells := 0, slots := 0, locals := 18 } : Room) s m #[(.ref a), (.ref a)] below meth c s₁ [] 0 0 := Stand.of_body Bd
  have e0 : s₁.heap = h0 := by rw [← hh, Bd.state]; rfl
  have N0 := Fr.nil n0
  have K0 : Keep h0 h0 [] := Keep.refl _ _
  have pre0 : ∀ tgt, Steps p.tables e below (s₁.setTop (mkF m 0 #[.val (.ref a), .val (.ref a)] [])) tgt → Steps p.tables e below (s₁.setTop (entryFrame m #[(.ref a), (.ref a)] 2)) tgt := fun tgt kgo => castTop (ef_rmfeq m a) kgo
  obtain ⟨T1, X1, e1, st1⟩ := instY X0 hx hZ hown (ow78 hw) e0 (Ins.self Ea) (g := (mkF m 1 #[.val (.ref a), .val (.ref a)] [(.ref a)])) rfl rfl (hb hby d_prog_11_method_12_code_1)
  obtain ⟨T2, X2, e2, st2⟩ := getF X1 hx hZ hown (host := "") (Or.inl (ow80 hw)) Via.refl e1 Fn (g := (mkF m 8 #[.val (.ref a), .val (.ref a)] [(.ref a)])) rfl rfl (hb hby d_prog_11_method_12_code_8)
  obtain ⟨T3, X3, e3, st3⟩ := castY X2 hx hZ hown (ow78 hw) e2 (Ins.self Ea) (g := (mkF m 12 #[.val (.ref a), .val (.ref a)] [(.ref a), (.ref nu)])) rfl rfl (hb hby d_prog_11_method_12_code_12)
  obtain ⟨T4, X4, e4, st4⟩ := getF X3 hx hZ hown (host := "") (Or.inl (ow80 hw)) Via.refl e3 Fn (g := (mkF m 15 #[.val (.ref a), .val (.ref a)] [(.ref a), (.ref nu)])) rfl rfl (hb hby d_prog_11_method_12_code_15)
  obtain ⟨cq5, kq5, q5a, q5b, q5c⟩ := isOf hZ e4 En
  obtain ⟨_, _, ⟨T5, L5, k5, n5⟩, -, X5, ⟨Lc5, hQ5, l5, y5, z5⟩, st5⟩ := X4.virtualBack hx (y := (⟨"java/math/BigInteger", "equals", "(Ljava/lang/Object;)Z"⟩ : MethodName)) (z := (⟨"java/math/BigInteger", "equals", "(Ljava/lang/Object;)Z"⟩ : MethodName)) hown (mvT hZ (ow82 hw)) (mvT hZ (ow83 hw)) (notFace_of_selects (args := #[]) (mvT hZ (ow85 hw))) (mvT hZ (ow85 hw)) (mvT hZ (ow84 hw)) (by decide) (backOf (W := 0) (rmbeq l Z a0 hw [] nu  h0 n0 O0 ) hZ (ow87 hw) (ow86 hw) (by decide) (by decide)) q5a q5c (g := (mkF m 18 #[.val (.ref a), .val (.ref a)] [(.ref nu), (.ref nu)])) rfl (by rw [hml]; rfl) (Steps.refl _) (argsL := [(.ref nu)]) (rest := []) (lenOf pd2 rfl) rfl (by show 2 * 0 + _ ≤ _; exact Nat.le_of_eq rfl) (hb hby d_prog_11_method_12_code_18) (fun _ _ => ⟨rfl, e4, (by decide : 0 + 0 ≤ _), (by decide : 0 + 0 ≤ _)⟩)
  dsimp only [Pt.U, Pt.locs, Pt.cells, Pt.slots] at X5 l5 y5 z5 st5 hQ5
  subst l5 y5 z5
  obtain ⟨rfl, Nq5, eq5⟩ := hQ5
  have N6 := Fr.app N0 Nq5
  obtain ⟨T7, X7, e7, st7⟩ := getF X5 hx hZ hown (host := "") (Or.inl (ow88 hw)) Via.refl eq5 Fd (g := (mkF m 25 #[.val (.ref a), .val (.ref a)] [(.ref a)])) rfl rfl (hb hby d_prog_11_method_12_code_25)
  obtain ⟨T8, X8, e8, st8⟩ := castY X7 hx hZ hown (ow78 hw) e7 (Ins.self Ea) (g := (mkF m 29 #[.val (.ref a), .val (.ref a)] [(.ref a), (.ref de)])) rfl rfl (hb hby d_prog_11_method_12_code_29)
  obtain ⟨T9, X9, e9, st9⟩ := getF X8 hx hZ hown (host := "") (Or.inl (ow88 hw)) Via.refl e8 Fd (g := (mkF m 32 #[.val (.ref a), .val (.ref a)] [(.ref a), (.ref de)])) rfl rfl (hb hby d_prog_11_method_12_code_32)
  obtain ⟨cq10, kq10, q10a, q10b, q10c⟩ := isOf hZ e9 Ed
  obtain ⟨_, _, ⟨T10, L10, k10, n10⟩, -, X10, ⟨Lc10, hQ10, l10, y10, z10⟩, st10⟩ := X9.virtualBack hx (y := (⟨"java/math/BigInteger", "equals", "(Ljava/lang/Object;)Z"⟩ : MethodName)) (z := (⟨"java/math/BigInteger", "equals", "(Ljava/lang/Object;)Z"⟩ : MethodName)) hown (mvT hZ (ow82 hw)) (mvT hZ (ow83 hw)) (notFace_of_selects (args := #[]) (mvT hZ (ow85 hw))) (mvT hZ (ow85 hw)) (mvT hZ (ow84 hw)) (by decide) (backOf (W := 0) (rmbeq l Z a0 hw [] de  h0 n0 O0 ) hZ (ow87 hw) (ow86 hw) (by decide) (by decide)) q10a q10c (g := (mkF m 35 #[.val (.ref a), .val (.ref a)] [(.ref de), (.ref de)])) rfl (by rw [hml]; rfl) (Steps.refl _) (argsL := [(.ref de)]) (rest := []) (lenOf pd2 rfl) rfl (by show 2 * 0 + _ ≤ _; exact Nat.le_of_eq rfl) (hb hby d_prog_11_method_12_code_35) (fun _ _ => ⟨rfl, e9, (by decide : 0 + 0 ≤ _), (by decide : 0 + 0 ≤ _)⟩)
  dsimp only [Pt.U, Pt.locs, Pt.cells, Pt.slots] at X10 l10 y10 z10 st10 hQ10
  subst l10 y10 z10
  obtain ⟨rfl, Nq10, eq10⟩ := hQ10
  have N11 := Fr.app N6 Nq10
  obtain ⟨fs, hretL, hrun, hended, hW, hsame⟩ := X10.leave (v := some (.int (1 : Int32))) (fun h => by rw [Bd.returns] at h; cases h)
  refine ⟨_, _, pre0 _ ?_, hrun, hended, _, _, rfl, ?_, ⟨_, rfl⟩, hW, hsame.mono (by decide) (by decide)⟩
  · refine XS.aloadN X0.here hx rfl (hb hby d_prog_11_method_12_code_0) rfl rfl ?_
    show Steps p.tables e below (s₁.setTop (mkF m 1 #[.val (.ref a), .val (.ref a)] [(.ref a)])) _
    refine st1 _ ?_
    show Steps p.tables e below (T1.setTop (mkF m 4 #[.val (.ref a), .val (.ref a)] [(.int (1 : Int32))])) _
    refine XS.ifNo X1.here hx rfl (hb hby d_prog_11_method_12_code_4) rfl ((if0 _ _).trans (feq (by decide : ¬ ((1 : Int32) = (0 : Int32)))).1) ?_
    show Steps p.tables e below (T1.setTop (mkF m 7 #[.val (.ref a), .val (.ref a)] [])) _
    refine XS.aloadN X1.here hx rfl (hb hby d_prog_11_method_12_code_7) rfl rfl ?_
    show Steps p.tables e below (T1.setTop (mkF m 8 #[.val (.ref a), .val (.ref a)] [(.ref a)])) _
    refine st2 _ ?_
    show Steps p.tables e below (T2.setTop (mkF m 11 #[.val (.ref a), .val (.ref a)] [(.ref nu)])) _
    refine XS.aloadN X2.here hx rfl (hb hby d_prog_11_method_12_code_11) rfl rfl ?_
    show Steps p.tables e below (T2.setTop (mkF m 12 #[.val (.ref a), .val (.ref a)] [(.ref a), (.ref nu)])) _
    refine st3 _ ?_
    show Steps p.tables e below (T3.setTop (mkF m 15 #[.val (.ref a), .val (.ref a)] [(.ref a), (.ref nu)])) _
    refine st4 _ ?_
    show Steps p.tables e below (T4.setTop (mkF m 18 #[.val (.ref a), .val (.ref a)] [(.ref nu), (.ref nu)])) _
    refine st5.trans ?_
    show Steps p.tables e below (T5.setTop (mkF m 21 #[.val (.ref a), .val (.ref a)] [(.int (1 : Int32))])) _
    refine XS.ifNo X5.here hx rfl (hb hby d_prog_11_method_12_code_21) rfl ((if0 _ _).trans (feq (by decide : ¬ ((1 : Int32) = (0 : Int32)))).1) ?_
    show Steps p.tables e below (T5.setTop (mkF m 24 #[.val (.ref a), .val (.ref a)] [])) _
    refine XS.aloadN X5.here hx rfl (hb hby d_prog_11_method_12_code_24) rfl rfl ?_
    show Steps p.tables e below (T5.setTop (mkF m 25 #[.val (.ref a), .val (.ref a)] [(.ref a)])) _
    refine st7 _ ?_
    show Steps p.tables e below (T7.setTop (mkF m 28 #[.val (.ref a), .val (.ref a)] [(.ref de)])) _
    refine XS.aloadN X7.here hx rfl (hb hby d_prog_11_method_12_code_28) rfl rfl ?_
    show Steps p.tables e below (T7.setTop (mkF m 29 #[.val (.ref a), .val (.ref a)] [(.ref a), (.ref de)])) _
    refine st8 _ ?_
    show Steps p.tables e below (T8.setTop (mkF m 32 #[.val (.ref a), .val (.ref a)] [(.ref a), (.ref de)])) _
    refine st9 _ ?_
    show Steps p.tables e below (T9.setTop (mkF m 35 #[.val (.ref a), .val (.ref a)] [(.ref de), (.ref de)])) _
    refine st10.trans ?_
    show Steps p.tables e below (T10.setTop (mkF m 38 #[.val (.ref a), .val (.ref a)] [(.int (1 : Int32))])) _
    refine XS.ifNo X10.here hx rfl (hb hby d_prog_11_method_12_code_38) rfl ((if0 _ _).trans (feq (by decide : ¬ ((1 : Int32) = (0 : Int32)))).1) ?_
    show Steps p.tables e below (T10.setTop (mkF m 41 #[.val (.ref a), .val (.ref a)] [])) _
    refine XS.iconst X10.here hx rfl (hb hby d_prog_11_method_12_code_41) ?_
    show Steps p.tables e below (T10.setTop (mkF m 42 #[.val (.ref a), .val (.ref a)] [(.int (1 : Int32))])) _
    refine XS.goto X10.here hx rfl (pc0 := 42) (pc' := 46) rfl (hb hby d_prog_11_method_12_code_42) (by decide) (by decide) ?_
    show Steps p.tables e below (T10.setTop (mkF m 46 #[.val (.ref a), .val (.ref a)] [(.int (1 : Int32))])) _
    exact retOut X10 hx Bd.returns rfl (Or.inl ⟨rfl, Or.inr (Or.inl rfl), _, rfl⟩) (hb hby d_prog_11_method_12_code_46) hretL
  · show Q_rmfeq Z a nu de h0 n0 _ T10.heap _
    rw [eq10]
    exact ⟨rfl, N11, rfl⟩
def Q_rm0 (Z : State) (x0 : Int32) (w_BELOW : Addr) (w_ZERO : Addr) (w_ABOVE : Addr) (w_ZERO_numerator : Addr) (w_ZERO_denominator : Addr) (h0 : Heap) (n0 : Nat) (v : Option Value) (h : Heap) (L : List Loc) : Prop := v = some (.int (1 : Int32)) ∧ Fr n0 L
theorem ef_rm0 (m : MethodId) (x0 : Int32) : entryFrame m #[(.int x0)] maxLocals = mkF m 0 #[.val (.int x0), .unset, .unset, .unset, .unset, .unset, .unset] [] := by first | (simp [entryFrame, mkF, argsToLocals, Value.category, maxLocals]; done) | rfl
set_option maxRecDepth 65536 in
set_option maxHeartbeats 40000000 in
theorem rm0 (l : Launch) (Z : State) (a0 : Array Value) (hw : ∀ d ∈ tables_1, d.before a0 Z = true) (ws : List Jvm.Cond) (x0 : Int32) (w_BELOW : Addr) (w_ZERO : Addr) (w_ABOVE : Addr) (w_ZERO_numerator : Addr) (w_ZERO_denominator : Addr) (h0 : Heap) (n0 : Nat) (O0 : Old Z n0 h0) (S_BELOW : Sta Z Z.heap "com/example/makewhole/makewhole/Interpolation$Side" "BELOW" "Lcom/example/makewhole/makewhole/Interpolation$Side;" (.ref w_BELOW)) (E_BELOW : Exa Z Z.heap w_BELOW "com/example/makewhole/makewhole/Interpolation$Side") (S_ZERO : Sta Z Z.heap "com/example/makewhole/makewhole/Fraction" "ZERO" "Lcom/example/makewhole/makewhole/Fraction;" (.ref w_ZERO)) (E_ZERO : Exa Z Z.heap w_ZERO "com/example/makewhole/makewhole/Fraction") (S_ABOVE : Sta Z Z.heap "com/example/makewhole/makewhole/Interpolation$Side" "ABOVE" "Lcom/example/makewhole/makewhole/Interpolation$Side;" (.ref w_ABOVE)) (E_ABOVE : Exa Z Z.heap w_ABOVE "com/example/makewhole/makewhole/Interpolation$Side") (F_ZERO_numerator : Fld Z Z.heap w_ZERO "com/example/makewhole/makewhole/Fraction" "numerator" "Ljava/math/BigInteger;" (.ref w_ZERO_numerator)) (E_ZERO_numerator : Exa Z Z.heap w_ZERO_numerator "java/math/BigInteger") (F_ZERO_denominator : Fld Z Z.heap w_ZERO "com/example/makewhole/makewhole/Fraction" "denominator" "Ljava/math/BigInteger;" (.ref w_ZERO_denominator)) (E_ZERO_denominator : Exa Z Z.heap w_ZERO_denominator "java/math/BigInteger") :
    MetFree l x (head1 (Jvm.Cond.code x code maxLocals ret :: ws) room_1) (fun aa U => aa = #[(.int x0)] ∧ Z.Warmed39 U.vm ∧ U.heap = h0) (fun _ _ _ _ _ => True) (fun _ U o U' => ∃ v L, o = .returned v ∧ Q_rm0 Z x0 w_BELOW w_ZERO w_ABOVE w_ZERO_numerator w_ZERO_denominator h0 n0 v U'.heap L ∧ FrameEnd U o U' L 1 7) := by
  refine MetFree.of_bodySF (plainFor_of_name pn4) hisR ?_
  intro p e s m args below meth c s₁ Bd hml0 hP hK
  obtain ⟨rfl, hZ, hh⟩ := hP
  have hx := Bd.exec
  have hby := Bd.bytes
  have hml : c.maxLocals = 7 := hml0
  have hown : s.vm.findClass "com/example/makewhole/makewhole/InterpolationOutsidePinLaw" = some m.cls := findClass_of_methodNamed Bd.named
  have hnm := (name_of_methodNamed Bd.named Bd.method).1
  have X0 : Stand p l e room_1 s m #[(.int x0)] below meth c s₁ [] 0 0 := Stand.of_body Bd
  have e0 : s₁.heap = h0 := by rw [← hh, Bd.state]; rfl
  have N0 := Fr.nil n0
  have pre0 : ∀ tgt, Steps p.tables e below (s₁.setTop (mkF m 0 #[.val (.int x0), .unset, .unset, .unset, .unset, .unset, .unset] [])) tgt → Steps p.tables e below (s₁.setTop (entryFrame m #[(.int x0)] maxLocals)) tgt := fun tgt kgo => castTop (ef_rm0 m x0) kgo
  have pre1 : ∀ tgt, Steps p.tables e below (s₁.setTop (mkF m 3 #[.val (.int x0), .unset, .unset, .unset, .unset, .unset, .unset] [(.int (x0 &&& (1 : Int32)))])) tgt → Steps p.tables e below (s₁.setTop (entryFrame m #[(.int x0)] maxLocals)) tgt := by
    intro tgt kgo
    refine pre0 _ ?_
    refine XS.iloadN X0.here hx rfl (hb hby at_0) rfl ?_
    show Steps p.tables e below (s₁.setTop (mkF m 1 #[.val (.int x0), .unset, .unset, .unset, .unset, .unset, .unset] [(.int x0)])) _
    refine XS.iconst X0.here hx rfl (hb hby at_1) ?_
    show Steps p.tables e below (s₁.setTop (mkF m 2 #[.val (.int x0), .unset, .unset, .unset, .unset, .unset, .unset] [(.int (1 : Int32)), (.int x0)])) _
    refine XS.iand X0.here hx rfl (hb hby at_2) rfl ?_
    show Steps p.tables e below (s₁.setTop (mkF m 3 #[.val (.int x0), .unset, .unset, .unset, .unset, .unset, .unset] [(.int (x0 &&& (1 : Int32)))])) _
    exact kgo
  obtain ⟨T2, lo2, sd, X2, e2, N2, hsd, pre2⟩ : ∃ (T' : State) (lo2 : List Loc) (sd : Addr), Stand p l e room_1 s m #[(.int x0)] below meth c T' lo2 0 0 ∧ T'.heap = h0 ∧ Fr n0 lo2 ∧ sd = (if (x0 &&& (1 : Int32)) = (0 : Int32) then w_BELOW else w_ABOVE) ∧ ∀ tgt, Steps p.tables e below (T'.setTop (mkF m 15 #[.val (.int x0), .unset, .unset, .unset, .unset, .unset, .unset] [(.ref sd)])) tgt → Steps p.tables e below (s₁.setTop (entryFrame m #[(.int x0)] maxLocals)) tgt := by
    by_cases hc3_3 : (x0 &&& (1 : Int32)) = (0 : Int32)
    · obtain ⟨T4, X4, e4, st4⟩ := getS2 X0 hx hZ hown (host := "") (Or.inl (ow0 hw)) Via.refl e0 (S_BELOW.ext O0.2) (g := (mkF m 12 #[.val (.int x0), .unset, .unset, .unset, .unset, .unset, .unset] [])) rfl (hb hby at_12)
      have pre5 : ∀ tgt, Steps p.tables e below (T4.setTop (mkF m 15 #[.val (.int x0), .unset, .unset, .unset, .unset, .unset, .unset] [(.ref w_BELOW)])) tgt → Steps p.tables e below (s₁.setTop (entryFrame m #[(.int x0)] maxLocals)) tgt := by
        intro tgt kgo
        refine pre1 _ ?_
        refine XS.ifYes X0.here hx rfl (pc0 := 3) (pc' := 12) rfl (hb hby at_3) rfl ((if0 _ _).trans (teq hc3_3).1) (by decide) (by decide) ?_
        show Steps p.tables e below (s₁.setTop (mkF m 12 #[.val (.int x0), .unset, .unset, .unset, .unset, .unset, .unset] [])) _
        refine st4 _ ?_
        show Steps p.tables e below (T4.setTop (mkF m 15 #[.val (.int x0), .unset, .unset, .unset, .unset, .unset, .unset] [(.ref w_BELOW)])) _
        exact kgo
      exact ⟨T4, _, w_BELOW, X4, e4, N0, (by simp only [if_pos hc3_3]), pre5⟩
    · obtain ⟨T6, X6, e6, st6⟩ := getS2 X0 hx hZ hown (host := "") (Or.inl (ow90 hw)) Via.refl e0 (S_ABOVE.ext O0.2) (g := (mkF m 6 #[.val (.int x0), .unset, .unset, .unset, .unset, .unset, .unset] [])) rfl (hb hby at_6)
      have pre7 : ∀ tgt, Steps p.tables e below (T6.setTop (mkF m 15 #[.val (.int x0), .unset, .unset, .unset, .unset, .unset, .unset] [(.ref w_ABOVE)])) tgt → Steps p.tables e below (s₁.setTop (entryFrame m #[(.int x0)] maxLocals)) tgt := by
        intro tgt kgo
        refine pre1 _ ?_
        refine XS.ifNo X0.here hx rfl (hb hby at_3) rfl ((if0 _ _).trans (feq hc3_3).1) ?_
        show Steps p.tables e below (s₁.setTop (mkF m 6 #[.val (.int x0), .unset, .unset, .unset, .unset, .unset, .unset] [])) _
        refine st6 _ ?_
        show Steps p.tables e below (T6.setTop (mkF m 9 #[.val (.int x0), .unset, .unset, .unset, .unset, .unset, .unset] [(.ref w_ABOVE)])) _
        refine XS.goto X6.here hx rfl (pc0 := 9) (pc' := 15) rfl (hb hby at_9) (by decide) (by decide) ?_
        show Steps p.tables e below (T6.setTop (mkF m 15 #[.val (.int x0), .unset, .unset, .unset, .unset, .unset, .unset] [(.ref w_ABOVE)])) _
        exact kgo
      exact ⟨T6, _, w_ABOVE, X6, e6, N0, (by simp only [if_neg hc3_3]), pre7⟩
  obtain ⟨_, _, ⟨T8, L8, k8, n8⟩, -, X8, ⟨Lc8, hQ8, l8, y8, z8⟩, st8⟩ := Jvm.LawKit.callS X2 hx (y := (⟨"com/example/makewhole/makewhole/Interpolation", "outside", "(Lcom/example/makewhole/makewhole/Interpolation$Side;)Lcom/example/makewhole/makewhole/Interpolation;"⟩ : MethodName)) hown (mvT hZ (ow3 hw)) (mvT hZ (ow4 hw)) (mvT hZ (ow5 hw)) (mvT hZ (ow6 hw)) (by decide) (backOf (W := 0) (rmmk l Z a0 hw [] sd w_ZERO  h0 n0 O0 S_ZERO) hZ (ow6 hw) (ow5 hw) (by decide) (by decide)) (g := (mkF m 17 #[.val (.int x0), .val (.ref sd), .unset, .unset, .unset, .unset, .unset] [(.ref sd)])) rfl (by rw [hml]; rfl) (argsL := [(.ref sd)]) (rest := []) (lenOf pd3 rfl) rfl (by show 2 * 0 + _ ≤ _; exact Nat.le_of_eq rfl) (hb hby at_17) (fun _ _ => ⟨rfl, e2, (by decide : 0 + 1 ≤ _), (by decide : 0 + 7 ≤ _)⟩)
  dsimp only [Pt.U, Pt.locs, Pt.cells, Pt.slots] at X8 l8 y8 z8 st8 hQ8
  subst l8 y8 z8
  obtain ⟨bq8, rfl, Nq8, kp8, gq8, Ex8, G0_8, G1_8, G2_8, G3_8, G4_8, G5_8, G6_8⟩ := hQ8
  have N9 := Fr.app N2 Nq8
  have O10 := O0.keep kp8 all0
  obtain ⟨cq11, kq11, q11a, q11b, q11c⟩ := isOf hZ rfl Ex8
  obtain ⟨_, _, ⟨T11, L11, k11, n11⟩, -, X11, ⟨Lc11, hQ11, l11, y11, z11⟩, st11⟩ := X8.virtualBack hx (y := (⟨"com/example/makewhole/makewhole/Interpolation", "outside", "()Lcom/example/makewhole/makewhole/Interpolation$Side;"⟩ : MethodName)) (z := (⟨"com/example/makewhole/makewhole/Interpolation", "outside", "()Lcom/example/makewhole/makewhole/Interpolation$Side;"⟩ : MethodName)) hown (mvT hZ (ow37 hw)) (mvT hZ (ow38 hw)) (notFace_of_selects (args := #[]) (mvT hZ (ow40 hw))) (mvT hZ (ow40 hw)) (mvT hZ (ow39 hw)) (by decide) (backOf (W := 0) (rmg_outside l Z a0 hw [] bq8 (.ref sd) T8.heap n0 O10 rfl G0_8) hZ (ow41 hw) (ow5 hw) (by decide) (by decide)) q11a q11c (g := (mkF m 28 #[.val (.int x0), .val (.ref sd), .val (.ref bq8), .unset, .unset, .unset, .unset] [(.ref bq8)])) rfl (by rw [hml]; rfl) (Steps.refl _) (argsL := []) (rest := []) (lenOf pd4 rfl) rfl (by show 2 * 0 + _ ≤ _; exact Nat.le_of_eq rfl) (hb hby at_28) (fun _ _ => ⟨rfl, rfl, (by decide : 1 + 0 ≤ _), (by decide : 7 + 0 ≤ _)⟩)
  dsimp only [Pt.U, Pt.locs, Pt.cells, Pt.slots] at X11 l11 y11 z11 st11 hQ11
  subst l11 y11 z11
  obtain ⟨rfl, Nq11, eq11⟩ := hQ11
  have N12 := Fr.app N9 Nq11
  obtain ⟨cq13, kq13, q13a, q13b, q13c⟩ := isOf hZ eq11 Ex8
  obtain ⟨_, _, ⟨T13, L13, k13, n13⟩, -, X13, ⟨Lc13, hQ13, l13, y13, z13⟩, st13⟩ := X11.virtualBack hx (y := (⟨"com/example/makewhole/makewhole/Interpolation", "prices", "()Ljava/util/List;"⟩ : MethodName)) (z := (⟨"com/example/makewhole/makewhole/Interpolation", "prices", "()Ljava/util/List;"⟩ : MethodName)) hown (mvT hZ (ow42 hw)) (mvT hZ (ow43 hw)) (notFace_of_selects (args := #[]) (mvT hZ (ow45 hw))) (mvT hZ (ow45 hw)) (mvT hZ (ow44 hw)) (by decide) (backOf (W := 0) (rmg_prices l Z a0 hw [] bq8 .null T8.heap n0 O10 rfl G1_8) hZ (ow46 hw) (ow5 hw) (by decide) (by decide)) q13a q13c (g := (mkF m 42 #[.val (.int x0), .val (.ref sd), .val (.ref bq8), .val (.int (1 : Int32)), .unset, .unset, .unset] [(.ref bq8)])) rfl (by rw [hml]; rfl) (Steps.refl _) (argsL := []) (rest := []) (lenOf pd5 rfl) rfl (by show 2 * 0 + _ ≤ _; exact Nat.le_of_eq rfl) (hb hby at_42) (fun _ _ => ⟨rfl, eq11, (by decide : 1 + 0 ≤ _), (by decide : 7 + 0 ≤ _)⟩)
  dsimp only [Pt.U, Pt.locs, Pt.cells, Pt.slots] at X13 l13 y13 z13 st13 hQ13
  subst l13 y13 z13
  obtain ⟨rfl, Nq13, eq13⟩ := hQ13
  have N14 := Fr.app N12 Nq13
  obtain ⟨cq15, kq15, q15a, q15b, q15c⟩ := isOf hZ eq13 Ex8
  obtain ⟨_, _, ⟨T15, L15, k15, n15⟩, -, X15, ⟨Lc15, hQ15, l15, y15, z15⟩, st15⟩ := X13.virtualBack hx (y := (⟨"com/example/makewhole/makewhole/Interpolation", "dates", "()Ljava/util/List;"⟩ : MethodName)) (z := (⟨"com/example/makewhole/makewhole/Interpolation", "dates", "()Ljava/util/List;"⟩ : MethodName)) hown (mvT hZ (ow47 hw)) (mvT hZ (ow48 hw)) (notFace_of_selects (args := #[]) (mvT hZ (ow50 hw))) (mvT hZ (ow50 hw)) (mvT hZ (ow49 hw)) (by decide) (backOf (W := 0) (rmg_dates l Z a0 hw [] bq8 .null T8.heap n0 O10 rfl G2_8) hZ (ow51 hw) (ow5 hw) (by decide) (by decide)) q15a q15c (g := (mkF m 49 #[.val (.int x0), .val (.ref sd), .val (.ref bq8), .val (.int (1 : Int32)), .unset, .unset, .unset] [(.ref bq8)])) rfl (by rw [hml]; rfl) (Steps.refl _) (argsL := []) (rest := []) (lenOf pd5 rfl) rfl (by show 2 * 0 + _ ≤ _; exact Nat.le_of_eq rfl) (hb hby at_49) (fun _ _ => ⟨rfl, eq13, (by decide : 1 + 0 ≤ _), (by decide : 7 + 0 ≤ _)⟩)
  dsimp only [Pt.U, Pt.locs, Pt.cells, Pt.slots] at X15 l15 y15 z15 st15 hQ15
  subst l15 y15 z15
  obtain ⟨rfl, Nq15, eq15⟩ := hQ15
  have N16 := Fr.app N14 Nq15
  obtain ⟨cq17, kq17, q17a, q17b, q17c⟩ := isOf hZ eq15 Ex8
  obtain ⟨_, _, ⟨T17, L17, k17, n17⟩, -, X17, ⟨Lc17, hQ17, l17, y17, z17⟩, st17⟩ := X15.virtualBack hx (y := (⟨"com/example/makewhole/makewhole/Interpolation", "cells", "()Ljava/util/List;"⟩ : MethodName)) (z := (⟨"com/example/makewhole/makewhole/Interpolation", "cells", "()Ljava/util/List;"⟩ : MethodName)) hown (mvT hZ (ow52 hw)) (mvT hZ (ow53 hw)) (notFace_of_selects (args := #[]) (mvT hZ (ow55 hw))) (mvT hZ (ow55 hw)) (mvT hZ (ow54 hw)) (by decide) (backOf (W := 0) (rmg_cells l Z a0 hw [] bq8 .null T8.heap n0 O10 rfl G3_8) hZ (ow56 hw) (ow5 hw) (by decide) (by decide)) q17a q17c (g := (mkF m 56 #[.val (.int x0), .val (.ref sd), .val (.ref bq8), .val (.int (1 : Int32)), .unset, .unset, .unset] [(.ref bq8)])) rfl (by rw [hml]; rfl) (Steps.refl _) (argsL := []) (rest := []) (lenOf pd5 rfl) rfl (by show 2 * 0 + _ ≤ _; exact Nat.le_of_eq rfl) (hb hby at_56) (fun _ _ => ⟨rfl, eq15, (by decide : 1 + 0 ≤ _), (by decide : 7 + 0 ≤ _)⟩)
  dsimp only [Pt.U, Pt.locs, Pt.cells, Pt.slots] at X17 l17 y17 z17 st17 hQ17
  subst l17 y17 z17
  obtain ⟨rfl, Nq17, eq17⟩ := hQ17
  have N18 := Fr.app N16 Nq17
  obtain ⟨cq19, kq19, q19a, q19b, q19c⟩ := isOf hZ eq17 Ex8
  obtain ⟨_, _, ⟨T19, L19, k19, n19⟩, -, X19, ⟨Lc19, hQ19, l19, y19, z19⟩, st19⟩ := X17.virtualBack hx (y := (⟨"com/example/makewhole/makewhole/Interpolation", "priceWeight", "()Lcom/example/makewhole/makewhole/Fraction;"⟩ : MethodName)) (z := (⟨"com/example/makewhole/makewhole/Interpolation", "priceWeight", "()Lcom/example/makewhole/makewhole/Fraction;"⟩ : MethodName)) hown (mvT hZ (ow57 hw)) (mvT hZ (ow58 hw)) (notFace_of_selects (args := #[]) (mvT hZ (ow60 hw))) (mvT hZ (ow60 hw)) (mvT hZ (ow59 hw)) (by decide) (backOf (W := 0) (rmg_priceWeight l Z a0 hw [] bq8 .null T8.heap n0 O10 rfl G4_8) hZ (ow61 hw) (ow5 hw) (by decide) (by decide)) q19a q19c (g := (mkF m 63 #[.val (.int x0), .val (.ref sd), .val (.ref bq8), .val (.int (1 : Int32)), .unset, .unset, .unset] [(.ref bq8)])) rfl (by rw [hml]; rfl) (Steps.refl _) (argsL := []) (rest := []) (lenOf pd6 rfl) rfl (by show 2 * 0 + _ ≤ _; exact Nat.le_of_eq rfl) (hb hby at_63) (fun _ _ => ⟨rfl, eq17, (by decide : 1 + 0 ≤ _), (by decide : 7 + 0 ≤ _)⟩)
  dsimp only [Pt.U, Pt.locs, Pt.cells, Pt.slots] at X19 l19 y19 z19 st19 hQ19
  subst l19 y19 z19
  obtain ⟨rfl, Nq19, eq19⟩ := hQ19
  have N20 := Fr.app N18 Nq19
  obtain ⟨cq21, kq21, q21a, q21b, q21c⟩ := isOf hZ eq19 Ex8
  obtain ⟨_, _, ⟨T21, L21, k21, n21⟩, -, X21, ⟨Lc21, hQ21, l21, y21, z21⟩, st21⟩ := X19.virtualBack hx (y := (⟨"com/example/makewhole/makewhole/Interpolation", "dateWeight", "()Lcom/example/makewhole/makewhole/Fraction;"⟩ : MethodName)) (z := (⟨"com/example/makewhole/makewhole/Interpolation", "dateWeight", "()Lcom/example/makewhole/makewhole/Fraction;"⟩ : MethodName)) hown (mvT hZ (ow62 hw)) (mvT hZ (ow63 hw)) (notFace_of_selects (args := #[]) (mvT hZ (ow65 hw))) (mvT hZ (ow65 hw)) (mvT hZ (ow64 hw)) (by decide) (backOf (W := 0) (rmg_dateWeight l Z a0 hw [] bq8 .null T8.heap n0 O10 rfl G5_8) hZ (ow66 hw) (ow5 hw) (by decide) (by decide)) q21a q21c (g := (mkF m 70 #[.val (.int x0), .val (.ref sd), .val (.ref bq8), .val (.int (1 : Int32)), .unset, .unset, .unset] [(.ref bq8)])) rfl (by rw [hml]; rfl) (Steps.refl _) (argsL := []) (rest := []) (lenOf pd6 rfl) rfl (by show 2 * 0 + _ ≤ _; exact Nat.le_of_eq rfl) (hb hby at_70) (fun _ _ => ⟨rfl, eq19, (by decide : 1 + 0 ≤ _), (by decide : 7 + 0 ≤ _)⟩)
  dsimp only [Pt.U, Pt.locs, Pt.cells, Pt.slots] at X21 l21 y21 z21 st21 hQ21
  subst l21 y21 z21
  obtain ⟨rfl, Nq21, eq21⟩ := hQ21
  have N22 := Fr.app N20 Nq21
  obtain ⟨cq23, kq23, q23a, q23b, q23c⟩ := isOf hZ eq21 Ex8
  obtain ⟨_, _, ⟨T23, L23, k23, n23⟩, -, X23, ⟨Lc23, hQ23, l23, y23, z23⟩, st23⟩ := X21.virtualBack hx (y := (⟨"com/example/makewhole/makewhole/Interpolation", "value", "()Lcom/example/makewhole/makewhole/Fraction;"⟩ : MethodName)) (z := (⟨"com/example/makewhole/makewhole/Interpolation", "value", "()Lcom/example/makewhole/makewhole/Fraction;"⟩ : MethodName)) hown (mvT hZ (ow67 hw)) (mvT hZ (ow68 hw)) (notFace_of_selects (args := #[]) (mvT hZ (ow70 hw))) (mvT hZ (ow70 hw)) (mvT hZ (ow69 hw)) (by decide) (backOf (W := 0) (rmg_value l Z a0 hw [] bq8 (.ref w_ZERO) T8.heap n0 O10 rfl G6_8) hZ (ow71 hw) (ow5 hw) (by decide) (by decide)) q23a q23c (g := (mkF m 84 #[.val (.int x0), .val (.ref sd), .val (.ref bq8), .val (.int (1 : Int32)), .val (.int (1 : Int32)), .unset, .unset] [(.ref bq8)])) rfl (by rw [hml]; rfl) (Steps.refl _) (argsL := []) (rest := []) (lenOf pd6 rfl) rfl (by show 2 * 0 + _ ≤ _; exact Nat.le_of_eq rfl) (hb hby at_84) (fun _ _ => ⟨rfl, eq21, (by decide : 1 + 0 ≤ _), (by decide : 7 + 0 ≤ _)⟩)
  dsimp only [Pt.U, Pt.locs, Pt.cells, Pt.slots] at X23 l23 y23 z23 st23 hQ23
  subst l23 y23 z23
  obtain ⟨rfl, Nq23, eq23⟩ := hQ23
  have N24 := Fr.app N22 Nq23
  obtain ⟨T25, X25, e25, st25⟩ := getS2 X23 hx hZ hown (host := "") (Or.inl (ow72 hw)) Via.refl eq23 (S_ZERO.ext O10.2) (g := (mkF m 96 #[.val (.int x0), .val (.ref sd), .val (.ref bq8), .val (.int (1 : Int32)), .val (.int (1 : Int32)), .val (.ref w_ZERO), .unset] [(.ref w_ZERO)])) rfl (hb hby at_96)
  obtain ⟨cq26, kq26, q26a, q26b, q26c⟩ := isOf hZ e25 (E_ZERO.ext O10.2)
  obtain ⟨_, _, ⟨T26, L26, k26, n26⟩, -, X26, ⟨Lc26, hQ26, l26, y26, z26⟩, st26⟩ := X25.virtualBack hx (y := (⟨"com/example/makewhole/makewhole/Fraction", "equals", "(Ljava/lang/Object;)Z"⟩ : MethodName)) (z := (⟨"com/example/makewhole/makewhole/Fraction", "equals", "(Ljava/lang/Object;)Z"⟩ : MethodName)) hown (mvT hZ (ow73 hw)) (mvT hZ (ow74 hw)) (notFace_of_selects (args := #[]) (mvT hZ (ow76 hw))) (mvT hZ (ow76 hw)) (mvT hZ (ow75 hw)) (by decide) (backOf (W := 0) (rmfeq l Z a0 hw [] w_ZERO w_ZERO_numerator w_ZERO_denominator  T8.heap n0 O10 (E_ZERO.ext O10.2) (F_ZERO_numerator.ext O10.2) (F_ZERO_denominator.ext O10.2) (E_ZERO_numerator.ext O10.2) (E_ZERO_denominator.ext O10.2)) hZ (ow77 hw) (ow10 hw) (by decide) (by decide)) q26a q26c (g := (mkF m 99 #[.val (.int x0), .val (.ref sd), .val (.ref bq8), .val (.int (1 : Int32)), .val (.int (1 : Int32)), .val (.ref w_ZERO), .unset] [(.ref w_ZERO), (.ref w_ZERO)])) rfl (by rw [hml]; rfl) (Steps.refl _) (argsL := [(.ref w_ZERO)]) (rest := []) (lenOf pd2 rfl) rfl (by show 2 * 0 + _ ≤ _; exact Nat.le_of_eq rfl) (hb hby at_99) (fun _ _ => ⟨rfl, e25, (by decide : 1 + 0 ≤ _), (by decide : 7 + 0 ≤ _)⟩)
  dsimp only [Pt.U, Pt.locs, Pt.cells, Pt.slots] at X26 l26 y26 z26 st26 hQ26
  subst l26 y26 z26
  obtain ⟨rfl, Nq26, eq26⟩ := hQ26
  have N27 := Fr.app N24 Nq26
  obtain ⟨fs, hretL, hrun, hended, hW, hsame⟩ := X26.leave (v := some (.int (1 : Int32))) (fun h => by rw [Bd.returns] at h; cases h)
  refine ⟨_, _, pre2 _ ?_, hrun, hended, _, _, rfl, ?_, ⟨_, rfl⟩, hW, hsame.mono (by decide) (by decide)⟩
  · refine XS.astoreN X2.here hx rfl (hb hby at_15) rfl rfl (l' := #[.val (.int x0), .val (.ref sd), .unset, .unset, .unset, .unset, .unset]) rfl ?_
    show Steps p.tables e below (T2.setTop (mkF m 16 #[.val (.int x0), .val (.ref sd), .unset, .unset, .unset, .unset, .unset] [])) _
    refine XS.aloadN X2.here hx rfl (hb hby at_16) rfl rfl ?_
    show Steps p.tables e below (T2.setTop (mkF m 17 #[.val (.int x0), .val (.ref sd), .unset, .unset, .unset, .unset, .unset] [(.ref sd)])) _
    refine st8 _ ?_
    show Steps p.tables e below (T8.setTop (mkF m 20 #[.val (.int x0), .val (.ref sd), .unset, .unset, .unset, .unset, .unset] [(.ref bq8)])) _
    refine XS.astoreN X8.here hx rfl (hb hby at_20) rfl rfl (l' := #[.val (.int x0), .val (.ref sd), .val (.ref bq8), .unset, .unset, .unset, .unset]) rfl ?_
    show Steps p.tables e below (T8.setTop (mkF m 21 #[.val (.int x0), .val (.ref sd), .val (.ref bq8), .unset, .unset, .unset, .unset] [])) _
    refine XS.aloadN X8.here hx rfl (hb hby at_21) rfl rfl ?_
    show Steps p.tables e below (T8.setTop (mkF m 22 #[.val (.int x0), .val (.ref sd), .val (.ref bq8), .unset, .unset, .unset, .unset] [(.ref bq8)])) _
    refine XS.ifnonnullYes X8.here hx rfl (pc0 := 22) (pc' := 27) rfl (hb hby at_22) rfl (by decide) (by decide) ?_
    show Steps p.tables e below (T8.setTop (mkF m 27 #[.val (.int x0), .val (.ref sd), .val (.ref bq8), .unset, .unset, .unset, .unset] [])) _
    refine XS.aloadN X8.here hx rfl (hb hby at_27) rfl rfl ?_
    show Steps p.tables e below (T8.setTop (mkF m 28 #[.val (.int x0), .val (.ref sd), .val (.ref bq8), .unset, .unset, .unset, .unset] [(.ref bq8)])) _
    refine st11.trans ?_
    show Steps p.tables e below (T11.setTop (mkF m 31 #[.val (.int x0), .val (.ref sd), .val (.ref bq8), .unset, .unset, .unset, .unset] [(.ref sd)])) _
    refine XS.aloadN X11.here hx rfl (hb hby at_31) rfl rfl ?_
    show Steps p.tables e below (T11.setTop (mkF m 32 #[.val (.int x0), .val (.ref sd), .val (.ref bq8), .unset, .unset, .unset, .unset] [(.ref sd), (.ref sd)])) _
    refine Jvm.RoadKit.acmp (g := (mkF m 32 #[.val (.int x0), .val (.ref sd), .val (.ref bq8), .unset, .unset, .unset, .unset] [(.ref sd), (.ref sd)])) X11 hx rfl rfl rfl (pc0 := 32) (pc' := 35) (same := true) rfl (hb hby at_32) rfl (decide_eq_true (congrArg Value.ref rfl)) (by decide) (by decide) ?_
    show Steps p.tables e below (T11.setTop (mkF m 35 #[.val (.int x0), .val (.ref sd), .val (.ref bq8), .unset, .unset, .unset, .unset] [])) _
    refine XS.iconst X11.here hx rfl (hb hby at_35) ?_
    show Steps p.tables e below (T11.setTop (mkF m 36 #[.val (.int x0), .val (.ref sd), .val (.ref bq8), .unset, .unset, .unset, .unset] [(.int (1 : Int32))])) _
    refine XS.goto X11.here hx rfl (pc0 := 36) (pc' := 40) rfl (hb hby at_36) (by decide) (by decide) ?_
    show Steps p.tables e below (T11.setTop (mkF m 40 #[.val (.int x0), .val (.ref sd), .val (.ref bq8), .unset, .unset, .unset, .unset] [(.int (1 : Int32))])) _
    refine XS.istoreN X11.here hx rfl (hb hby at_40) rfl (l' := #[.val (.int x0), .val (.ref sd), .val (.ref bq8), .val (.int (1 : Int32)), .unset, .unset, .unset]) rfl ?_
    show Steps p.tables e below (T11.setTop (mkF m 41 #[.val (.int x0), .val (.ref sd), .val (.ref bq8), .val (.int (1 : Int32)), .unset, .unset, .unset] [])) _
    refine XS.aloadN X11.here hx rfl (hb hby at_41) rfl rfl ?_
    show Steps p.tables e below (T11.setTop (mkF m 42 #[.val (.int x0), .val (.ref sd), .val (.ref bq8), .val (.int (1 : Int32)), .unset, .unset, .unset] [(.ref bq8)])) _
    refine st13.trans ?_
    show Steps p.tables e below (T13.setTop (mkF m 45 #[.val (.int x0), .val (.ref sd), .val (.ref bq8), .val (.int (1 : Int32)), .unset, .unset, .unset] [.null])) _
    refine XS.ifnonnullNo X13.here hx rfl (hb hby at_45) rfl ?_
    show Steps p.tables e below (T13.setTop (mkF m 48 #[.val (.int x0), .val (.ref sd), .val (.ref bq8), .val (.int (1 : Int32)), .unset, .unset, .unset] [])) _
    refine XS.aloadN X13.here hx rfl (hb hby at_48) rfl rfl ?_
    show Steps p.tables e below (T13.setTop (mkF m 49 #[.val (.int x0), .val (.ref sd), .val (.ref bq8), .val (.int (1 : Int32)), .unset, .unset, .unset] [(.ref bq8)])) _
    refine st15.trans ?_
    show Steps p.tables e below (T15.setTop (mkF m 52 #[.val (.int x0), .val (.ref sd), .val (.ref bq8), .val (.int (1 : Int32)), .unset, .unset, .unset] [.null])) _
    refine XS.ifnonnullNo X15.here hx rfl (hb hby at_52) rfl ?_
    show Steps p.tables e below (T15.setTop (mkF m 55 #[.val (.int x0), .val (.ref sd), .val (.ref bq8), .val (.int (1 : Int32)), .unset, .unset, .unset] [])) _
    refine XS.aloadN X15.here hx rfl (hb hby at_55) rfl rfl ?_
    show Steps p.tables e below (T15.setTop (mkF m 56 #[.val (.int x0), .val (.ref sd), .val (.ref bq8), .val (.int (1 : Int32)), .unset, .unset, .unset] [(.ref bq8)])) _
    refine st17.trans ?_
    show Steps p.tables e below (T17.setTop (mkF m 59 #[.val (.int x0), .val (.ref sd), .val (.ref bq8), .val (.int (1 : Int32)), .unset, .unset, .unset] [.null])) _
    refine XS.ifnonnullNo X17.here hx rfl (hb hby at_59) rfl ?_
    show Steps p.tables e below (T17.setTop (mkF m 62 #[.val (.int x0), .val (.ref sd), .val (.ref bq8), .val (.int (1 : Int32)), .unset, .unset, .unset] [])) _
    refine XS.aloadN X17.here hx rfl (hb hby at_62) rfl rfl ?_
    show Steps p.tables e below (T17.setTop (mkF m 63 #[.val (.int x0), .val (.ref sd), .val (.ref bq8), .val (.int (1 : Int32)), .unset, .unset, .unset] [(.ref bq8)])) _
    refine st19.trans ?_
    show Steps p.tables e below (T19.setTop (mkF m 66 #[.val (.int x0), .val (.ref sd), .val (.ref bq8), .val (.int (1 : Int32)), .unset, .unset, .unset] [.null])) _
    refine XS.ifnonnullNo X19.here hx rfl (hb hby at_66) rfl ?_
    show Steps p.tables e below (T19.setTop (mkF m 69 #[.val (.int x0), .val (.ref sd), .val (.ref bq8), .val (.int (1 : Int32)), .unset, .unset, .unset] [])) _
    refine XS.aloadN X19.here hx rfl (hb hby at_69) rfl rfl ?_
    show Steps p.tables e below (T19.setTop (mkF m 70 #[.val (.int x0), .val (.ref sd), .val (.ref bq8), .val (.int (1 : Int32)), .unset, .unset, .unset] [(.ref bq8)])) _
    refine st21.trans ?_
    show Steps p.tables e below (T21.setTop (mkF m 73 #[.val (.int x0), .val (.ref sd), .val (.ref bq8), .val (.int (1 : Int32)), .unset, .unset, .unset] [.null])) _
    refine XS.ifnonnullNo X21.here hx rfl (hb hby at_73) rfl ?_
    show Steps p.tables e below (T21.setTop (mkF m 76 #[.val (.int x0), .val (.ref sd), .val (.ref bq8), .val (.int (1 : Int32)), .unset, .unset, .unset] [])) _
    refine XS.iconst X21.here hx rfl (hb hby at_76) ?_
    show Steps p.tables e below (T21.setTop (mkF m 77 #[.val (.int x0), .val (.ref sd), .val (.ref bq8), .val (.int (1 : Int32)), .unset, .unset, .unset] [(.int (1 : Int32))])) _
    refine XS.goto X21.here hx rfl (pc0 := 77) (pc' := 81) rfl (hb hby at_77) (by decide) (by decide) ?_
    show Steps p.tables e below (T21.setTop (mkF m 81 #[.val (.int x0), .val (.ref sd), .val (.ref bq8), .val (.int (1 : Int32)), .unset, .unset, .unset] [(.int (1 : Int32))])) _
    refine XS.istore X21.here hx rfl (hb hby at_81) rfl (l' := #[.val (.int x0), .val (.ref sd), .val (.ref bq8), .val (.int (1 : Int32)), .val (.int (1 : Int32)), .unset, .unset]) rfl ?_
    show Steps p.tables e below (T21.setTop (mkF m 83 #[.val (.int x0), .val (.ref sd), .val (.ref bq8), .val (.int (1 : Int32)), .val (.int (1 : Int32)), .unset, .unset] [])) _
    refine XS.aloadN X21.here hx rfl (hb hby at_83) rfl rfl ?_
    show Steps p.tables e below (T21.setTop (mkF m 84 #[.val (.int x0), .val (.ref sd), .val (.ref bq8), .val (.int (1 : Int32)), .val (.int (1 : Int32)), .unset, .unset] [(.ref bq8)])) _
    refine st23.trans ?_
    show Steps p.tables e below (T23.setTop (mkF m 87 #[.val (.int x0), .val (.ref sd), .val (.ref bq8), .val (.int (1 : Int32)), .val (.int (1 : Int32)), .unset, .unset] [(.ref w_ZERO)])) _
    refine XS.astore X23.here hx rfl (hb hby at_87) rfl rfl (l' := #[.val (.int x0), .val (.ref sd), .val (.ref bq8), .val (.int (1 : Int32)), .val (.int (1 : Int32)), .val (.ref w_ZERO), .unset]) rfl ?_
    show Steps p.tables e below (T23.setTop (mkF m 89 #[.val (.int x0), .val (.ref sd), .val (.ref bq8), .val (.int (1 : Int32)), .val (.int (1 : Int32)), .val (.ref w_ZERO), .unset] [])) _
    refine XS.aload X23.here hx rfl (hb hby at_89) rfl rfl ?_
    show Steps p.tables e below (T23.setTop (mkF m 91 #[.val (.int x0), .val (.ref sd), .val (.ref bq8), .val (.int (1 : Int32)), .val (.int (1 : Int32)), .val (.ref w_ZERO), .unset] [(.ref w_ZERO)])) _
    refine XS.ifnullNo X23.here hx rfl (hb hby at_91) rfl ?_
    show Steps p.tables e below (T23.setTop (mkF m 94 #[.val (.int x0), .val (.ref sd), .val (.ref bq8), .val (.int (1 : Int32)), .val (.int (1 : Int32)), .val (.ref w_ZERO), .unset] [])) _
    refine XS.aload X23.here hx rfl (hb hby at_94) rfl rfl ?_
    show Steps p.tables e below (T23.setTop (mkF m 96 #[.val (.int x0), .val (.ref sd), .val (.ref bq8), .val (.int (1 : Int32)), .val (.int (1 : Int32)), .val (.ref w_ZERO), .unset] [(.ref w_ZERO)])) _
    refine st25 _ ?_
    show Steps p.tables e below (T25.setTop (mkF m 99 #[.val (.int x0), .val (.ref sd), .val (.ref bq8), .val (.int (1 : Int32)), .val (.int (1 : Int32)), .val (.ref w_ZERO), .unset] [(.ref w_ZERO), (.ref w_ZERO)])) _
    refine st26.trans ?_
    show Steps p.tables e below (T26.setTop (mkF m 102 #[.val (.int x0), .val (.ref sd), .val (.ref bq8), .val (.int (1 : Int32)), .val (.int (1 : Int32)), .val (.ref w_ZERO), .unset] [(.int (1 : Int32))])) _
    refine XS.ifNo X26.here hx rfl (hb hby at_102) rfl ((if0 _ _).trans (feq (by decide : ¬ ((1 : Int32) = (0 : Int32)))).1) ?_
    show Steps p.tables e below (T26.setTop (mkF m 105 #[.val (.int x0), .val (.ref sd), .val (.ref bq8), .val (.int (1 : Int32)), .val (.int (1 : Int32)), .val (.ref w_ZERO), .unset] [])) _
    refine XS.iconst X26.here hx rfl (hb hby at_105) ?_
    show Steps p.tables e below (T26.setTop (mkF m 106 #[.val (.int x0), .val (.ref sd), .val (.ref bq8), .val (.int (1 : Int32)), .val (.int (1 : Int32)), .val (.ref w_ZERO), .unset] [(.int (1 : Int32))])) _
    refine XS.goto X26.here hx rfl (pc0 := 106) (pc' := 110) rfl (hb hby at_106) (by decide) (by decide) ?_
    show Steps p.tables e below (T26.setTop (mkF m 110 #[.val (.int x0), .val (.ref sd), .val (.ref bq8), .val (.int (1 : Int32)), .val (.int (1 : Int32)), .val (.ref w_ZERO), .unset] [(.int (1 : Int32))])) _
    refine XS.istore X26.here hx rfl (hb hby at_110) rfl (l' := #[.val (.int x0), .val (.ref sd), .val (.ref bq8), .val (.int (1 : Int32)), .val (.int (1 : Int32)), .val (.ref w_ZERO), .val (.int (1 : Int32))]) rfl ?_
    show Steps p.tables e below (T26.setTop (mkF m 112 #[.val (.int x0), .val (.ref sd), .val (.ref bq8), .val (.int (1 : Int32)), .val (.int (1 : Int32)), .val (.ref w_ZERO), .val (.int (1 : Int32))] [])) _
    refine XS.iloadN X26.here hx rfl (hb hby at_112) rfl ?_
    show Steps p.tables e below (T26.setTop (mkF m 113 #[.val (.int x0), .val (.ref sd), .val (.ref bq8), .val (.int (1 : Int32)), .val (.int (1 : Int32)), .val (.ref w_ZERO), .val (.int (1 : Int32))] [(.int (1 : Int32))])) _
    refine XS.ifNo X26.here hx rfl (hb hby at_113) rfl ((if0 _ _).trans (feq (by decide : ¬ ((1 : Int32) = (0 : Int32)))).1) ?_
    show Steps p.tables e below (T26.setTop (mkF m 116 #[.val (.int x0), .val (.ref sd), .val (.ref bq8), .val (.int (1 : Int32)), .val (.int (1 : Int32)), .val (.ref w_ZERO), .val (.int (1 : Int32))] [])) _
    refine XS.iload X26.here hx rfl (hb hby at_116) rfl ?_
    show Steps p.tables e below (T26.setTop (mkF m 118 #[.val (.int x0), .val (.ref sd), .val (.ref bq8), .val (.int (1 : Int32)), .val (.int (1 : Int32)), .val (.ref w_ZERO), .val (.int (1 : Int32))] [(.int (1 : Int32))])) _
    refine XS.ifNo X26.here hx rfl (hb hby at_118) rfl ((if0 _ _).trans (feq (by decide : ¬ ((1 : Int32) = (0 : Int32)))).1) ?_
    show Steps p.tables e below (T26.setTop (mkF m 121 #[.val (.int x0), .val (.ref sd), .val (.ref bq8), .val (.int (1 : Int32)), .val (.int (1 : Int32)), .val (.ref w_ZERO), .val (.int (1 : Int32))] [])) _
    refine XS.iload X26.here hx rfl (hb hby at_121) rfl ?_
    show Steps p.tables e below (T26.setTop (mkF m 123 #[.val (.int x0), .val (.ref sd), .val (.ref bq8), .val (.int (1 : Int32)), .val (.int (1 : Int32)), .val (.ref w_ZERO), .val (.int (1 : Int32))] [(.int (1 : Int32))])) _
    refine XS.ifNo X26.here hx rfl (hb hby at_123) rfl ((if0 _ _).trans (feq (by decide : ¬ ((1 : Int32) = (0 : Int32)))).1) ?_
    show Steps p.tables e below (T26.setTop (mkF m 126 #[.val (.int x0), .val (.ref sd), .val (.ref bq8), .val (.int (1 : Int32)), .val (.int (1 : Int32)), .val (.ref w_ZERO), .val (.int (1 : Int32))] [])) _
    refine XS.iconst X26.here hx rfl (hb hby at_126) ?_
    show Steps p.tables e below (T26.setTop (mkF m 127 #[.val (.int x0), .val (.ref sd), .val (.ref bq8), .val (.int (1 : Int32)), .val (.int (1 : Int32)), .val (.ref w_ZERO), .val (.int (1 : Int32))] [(.int (1 : Int32))])) _
    refine XS.goto X26.here hx rfl (pc0 := 127) (pc' := 131) rfl (hb hby at_127) (by decide) (by decide) ?_
    show Steps p.tables e below (T26.setTop (mkF m 131 #[.val (.int x0), .val (.ref sd), .val (.ref bq8), .val (.int (1 : Int32)), .val (.int (1 : Int32)), .val (.ref w_ZERO), .val (.int (1 : Int32))] [(.int (1 : Int32))])) _
    exact retOut X26 hx Bd.returns rfl (Or.inl ⟨rfl, Or.inr (Or.inl rfl), _, rfl⟩) (hb hby at_131) hretL
  · show Q_rm0 Z x0 w_BELOW w_ZERO w_ABOVE w_ZERO_numerator w_ZERO_denominator h0 n0 _ T26.heap _
    rw [eq26]
    exact ⟨rfl, N27⟩
set_option maxRecDepth 65536 in
set_option maxHeartbeats 40000000 in
theorem comes_1 {Post : Tables → Env → Array Value → State → Outcome → State → Prop} (hpost : ∀ tb e args s v u, (limb_1_1.after args s (.returned v) u = true ∧ limb_1_2.after args s (.returned v) u = true ∧ True) → FrameEnd s (.returned v) u (Jvm.fieldLocs frame_1_writes args s ++ Jvm.arrayLocs frame_1_arrays args s ++ Jvm.staticLocs frame_1_statics s) 16 128 → Post tb e args s (.returned v) u) :
    ArmFor flags0 classFile x code maxLocals ret World_1 tables_1 room_1 Calls_1 rest_1 Pre_1 Post := by
  intro l hfl _ _ p e ha hc hk s m args below hf hA hF happ hP
  obtain ⟨hcalls, hrest, hpre⟩ := hP
  obtain ⟨-, -, -, hnamed, -, -, -, hat⟩ := (Spec.applies_iff hf).mp happ
  obtain ⟨hg, hn⟩ := and_e (Cond.before_iff.mp (show (Jvm.Cond.and given_1 narrow_1).before args s = true from hpre))
  obtain ⟨u1, v1⟩ := and_e hg
  obtain ⟨w0, rfl⟩ : ∃ w0 : Value, args = #[w0] := by
    have hs : args.size = 1 := by simpa [Cond.value, given_1] using u1
    obtain ⟨L⟩ := args
    match L, hs with
    | [w0], _ => exact ⟨w0, rfl⟩
  have hw := fun d (hd : d ∈ tables_1) => atoms_spec (ws := Jvm.Cond.code x code maxLocals ret :: tables_1) hat d (List.mem_cons_of_mem _ hd)
  have hfit : Fit s := fun {y c} hc i hi => by
    obtain ⟨ha, rfl⟩ := Array.getElem?_eq_some_iff.mp hc
    have q := List.all_eq_true.mp ((Array.all_eq_true_iff_forall_mem.mp hF) _ (Array.getElem_mem ha)) i (List.mem_range.mpr hi)
    simpa [Array.getElem?_eq_getElem hi] using q
  obtain ⟨i0, ei0⟩ := is_v v1
  obtain rfl : w0 = (.int i0) := Option.some.inj ei0
  obtain ⟨nu1, nv1⟩ := and_e hn
  obtain ⟨nu2, nv2⟩ := and_e nv1
  obtain ⟨nu3, nv3⟩ := and_e nv2
  obtain ⟨nu4, nv4⟩ := and_e nv3
  obtain ⟨w_BELOW, S_BELOW, E_BELOW, ev_BELOW⟩ := own_sta nu1 (ow1 hw) (ow2 hw)
  obtain ⟨w_ZERO, S_ZERO, E_ZERO, ev_ZERO⟩ := own_sta nu2 (ow10 hw) (ow11 hw)
  obtain ⟨w_ABOVE, S_ABOVE, E_ABOVE, ev_ABOVE⟩ := own_sta nv4 (ow1 hw) (ow91 hw)
  obtain ⟨w_ZERO_numerator, F_ZERO_numerator, E_ZERO_numerator, ev_ZERO_numerator⟩ := own_fexa ev_ZERO nu3
  obtain ⟨w_ZERO_denominator, F_ZERO_denominator, E_ZERO_denominator, ev_ZERO_denominator⟩ := own_fexa ev_ZERO nu4
  obtain ⟨n, o, h1, h2, h3, _, L, rfl, ⟨rfl, N⟩, hq⟩ := rm0 l s _ hw tables_1 i0 w_BELOW w_ZERO w_ABOVE w_ZERO_numerator w_ZERO_denominator s.heap s.heap.size (Old.start s) S_BELOW E_BELOW S_ZERO E_ZERO S_ABOVE E_ABOVE F_ZERO_numerator E_ZERO_numerator F_ZERO_denominator E_ZERO_denominator p e ha hc hk s m _ below hf ((Spec.applies_iff_loose hf).mp happ).1 ⟨rfl, State.Warmed39.refl s, rfl⟩ trivial
  refine ⟨n, _, h1, h2, h3, hpost _ _ _ _ _ _ ⟨Cond.after_iff.mpr rfl, Cond.after_iff.mpr (eq_i res_at (Term.int_eval (1)) rfl), trivial⟩ ⟨hq.1, hq.2.1, (hq.2.2.sift fun y hy => Or.inr (N y hy)).mono (by decide) (by decide)⟩⟩
theorem main_1_1 : Claimed_1_1 := comes_1 fun _ _ _ _ _ _ h hF => ⟨h.1, hF⟩
theorem main_1_2 : Claimed_1_2 := comes_1 fun _ _ _ _ _ _ h hF => ⟨h.2.1, hF⟩
end Jvm.Pilot.@@N@@
namespace Jvm.Pilot.@@N@@
open Jvm Jvm.ClassFile Sem Op Lib Jvm.Free Jvm.Stand Jvm.Pilot.@@N@@.Jvm.D
/-! MADE BY PROGRAM (witnessworld.py) out of the Statement's table words and the real class files: 17 classes; the members and pool entries that the words name. The judged class is class 1, her method 1. -/
namespace start1
open Jvm.ClassFile
def u (s : String) : CpInfo := .utf8 (stringToUtf16 s)
/-- a pool by its gaps: so many unusable entries, then the entry; so many at the end -/
def gap : Nat → List CpInfo → List CpInfo
  | 0, r => r
  | n + 1, r => .unusable :: gap n r
def poolList (es : List (Nat × CpInfo)) (last : Nat) : List CpInfo := es.foldr (fun e r => gap e.1 (e.2 :: r)) (gap last [])
def pool (es : List (Nat × CpInfo)) (last : Nat) : Array CpInfo := ⟨poolList es last⟩
def fileOf (pool : Array CpInfo) (this : Nat) (attrs : Array Attribute := #[]) (ms : Array MethodInfo := #[]) (fl : Nat := 33) (sup : Nat := 0) (ifs : Array Nat := #[]) (fds : Array FieldInfo := #[]) : ClassFile where
  minorVersion := 0
  majorVersion := 65
  constantPool := pool
  accessFlags := fl
  thisClass := this
  superClass := sup
  interfaces := ifs
  fields := fds
  methods := ms
  attributes := attrs
def plain (name : String) (sup : Option ClassId) : Class where
  name := name
  kind := .ordinary
  loader := none
  accessFlags := 33
  super := sup
  interfaces := #[]
  cf := none
  fields := #[]
  methods := #[]
  instanceTypes := #[]
  staticTypes := #[]
  resolved := #[]
  callSites := []
  init := .initialized
  statics := none
  mirror := none

def pool0 : Array CpInfo := pool [(5, u "<init>"), (0, u "()V"), (1, .class_ 10), (1, u "java/lang/Object")] 113

def k0c0 : Code := { maxStack := 0, maxLocals := 1, code := object_method_1_code, exceptionTable := #[], attributes := #[] }
def k0m0 : Method := { name := "<init>", desc := "()V", sig := { parameters := [], returnType := none }, accessFlags := 1, code := some k0c0 }
/-- java/lang/Object -/
def k0 : Class := { plain "java/lang/Object" none with
  accessFlags := 33
  interfaces := #[]
  cf := some (fileOf pool0 8 #[] #[{ accessFlags := 1, nameIndex := 5, descriptorIndex := 6, attributes := #[] }] 33 0 #[] #[])
  fields := #[]
  methods := #[k0m0]
  instanceTypes := #[]
  staticTypes := #[]
  resolved := Array.replicate 124 none
  statics := none }

def pool1 : Array CpInfo := pool [(2, .class_ 4), (1, u "java/lang/Object"), (0, u "<init>"), (0, u "()V"), (0, .fieldref 8 9), (0, .class_ 10), (0, .nameAndType 11 12), (0, u "com/example/makewhole/makewhole/Interpolation$Side"), (0, u "ABOVE"), (0, u "Lcom/example/makewhole/makewhole/Interpolation$Side;"), (0, .fieldref 8 14), (0, .nameAndType 15 12), (0, u "BELOW"), (0, .methodref 17 18), (0, .class_ 19), (0, .nameAndType 20 21), (0, u "com/example/makewhole/makewhole/Interpolation"), (0, u "outside"), (0, u "(Lcom/example/makewhole/makewhole/Interpolation$Side;)Lcom/example/makewhole/makewhole/Interpolation;"), (0, .methodref 17 23), (0, .nameAndType 20 24), (0, u "()Lcom/example/makewhole/makewhole/Interpolation$Side;"), (0, .methodref 17 26), (0, .nameAndType 27 28), (0, u "prices"), (0, u "()Ljava/util/List;"), (0, .methodref 17 30), (0, .nameAndType 31 28), (0, u "dates"), (0, .methodref 17 33), (0, .nameAndType 34 28), (0, u "cells"), (0, .methodref 17 36), (0, .nameAndType 37 38), (0, u "priceWeight"), (0, u "()Lcom/example/makewhole/makewhole/Fraction;"), (0, .methodref 17 40), (0, .nameAndType 41 38), (0, u "dateWeight"), (0, .methodref 17 43), (0, .nameAndType 44 38), (0, u "value"), (0, .fieldref 46 47), (0, .class_ 48), (0, .nameAndType 49 50), (0, u "com/example/makewhole/makewhole/Fraction"), (0, u "ZERO"), (0, u "Lcom/example/makewhole/makewhole/Fraction;"), (0, .methodref 46 52), (0, .nameAndType 53 54), (0, u "equals"), (0, u "(Ljava/lang/Object;)Z"), (0, .class_ 56), (0, u "com/example/makewhole/makewhole/InterpolationOutsidePinLaw"), (2, u "law"), (0, u "(I)Z")] 5

def k1m0 : Method := { name := "<init>", desc := "()V", sig := { parameters := [], returnType := none }, accessFlags := 1, code := none }
def k1c1 : Code := { maxStack := 2, maxLocals := 7, code := code, exceptionTable := #[], attributes := #[] }
def k1m1 : Method := { name := "law", desc := "(I)Z", sig := { parameters := [.int], returnType := some .boolean }, accessFlags := 9, code := some k1c1 }
/-- com/example/makewhole/makewhole/InterpolationOutsidePinLaw -/
def k1 : Class := { plain "com/example/makewhole/makewhole/InterpolationOutsidePinLaw" (some 0) with
  accessFlags := 49
  interfaces := #[]
  cf := some (fileOf pool1 55 #[] #[{ accessFlags := 1, nameIndex := 5, descriptorIndex := 6, attributes := #[] }, { accessFlags := 9, nameIndex := 59, descriptorIndex := 60, attributes := #[] }] 49 2 #[] #[])
  fields := #[]
  methods := #[k1m0, k1m1]
  instanceTypes := #[]
  staticTypes := #[]
  resolved := Array.replicate 66 none
  statics := none }

def pool2 : Array CpInfo := pool [(1, .class_ 2), (0, u "java/lang/constant/Constable"), (0, .class_ 4), (0, u "java/lang/Object")] 6

/-- java/lang/constant/Constable -/
def k2 : Class := { plain "java/lang/constant/Constable" (some 0) with
  accessFlags := 1537
  interfaces := #[]
  cf := some (fileOf pool2 1 #[] #[] 1537 3 #[] #[])
  fields := #[]
  methods := #[]
  instanceTypes := #[]
  staticTypes := #[]
  resolved := Array.replicate 11 none
  statics := none }

def pool3 : Array CpInfo := pool [(1, .class_ 2), (0, u "java/lang/Comparable"), (0, .class_ 4), (0, u "java/lang/Object")] 7

/-- java/lang/Comparable -/
def k3 : Class := { plain "java/lang/Comparable" (some 0) with
  accessFlags := 1537
  interfaces := #[]
  cf := some (fileOf pool3 1 #[] #[] 1537 3 #[] #[])
  fields := #[]
  methods := #[]
  instanceTypes := #[]
  staticTypes := #[]
  resolved := Array.replicate 12 none
  statics := none }

def pool4 : Array CpInfo := pool [(1, .class_ 2), (0, u "java/io/Serializable"), (0, .class_ 4), (0, u "java/lang/Object")] 2

/-- java/io/Serializable -/
def k4 : Class := { plain "java/io/Serializable" (some 0) with
  accessFlags := 1537
  interfaces := #[]
  cf := some (fileOf pool4 1 #[] #[] 1537 3 #[] #[])
  fields := #[]
  methods := #[]
  instanceTypes := #[]
  staticTypes := #[]
  resolved := Array.replicate 7 none
  statics := none }

def pool5 : Array CpInfo := pool [(2, .class_ 4), (1, u "java/lang/Enum"), (0, u "name"), (0, u "Ljava/lang/String;"), (2, u "ordinal"), (0, u "I"), (1, .class_ 14), (1, u "java/lang/Object"), (4, u "hash"), (86, .class_ 108), (1, u "java/lang/Enum$EnumDesc"), (2, .class_ 112), (0, u "java/lang/constant/Constable"), (0, .class_ 114), (0, u "java/lang/Comparable"), (0, .class_ 116), (0, u "java/io/Serializable")] 87

/-- java/lang/Enum -/
def k5 : Class := { plain "java/lang/Enum" (some 0) with
  accessFlags := 1057
  interfaces := #[2, 3, 4]
  cf := some (fileOf pool5 2 #[.nestMembers #[106]] #[] 1057 12 #[111, 113, 115] #[{ accessFlags := 18, nameIndex := 5, descriptorIndex := 6, attributes := #[] }, { accessFlags := 18, nameIndex := 9, descriptorIndex := 10, attributes := #[] }, { accessFlags := 2, nameIndex := 19, descriptorIndex := 10, attributes := #[] }])
  fields := #[{ name := "name", type := (.object "java/lang/String"), accessFlags := 18, slot := 0, constantValue := 0 }, { name := "ordinal", type := .int, accessFlags := 18, slot := 1, constantValue := 0 }, { name := "hash", type := .int, accessFlags := 2, slot := 2, constantValue := 0 }]
  methods := #[]
  instanceTypes := #[(.object "java/lang/String"), .int, .int]
  staticTypes := #[]
  resolved := Array.replicate 204 none
  statics := none }

def pool6 : Array CpInfo := pool [(1, .class_ 2), (0, u "com/example/makewhole/makewhole/Interpolation$Side"), (2, u "ABOVE"), (0, u "Lcom/example/makewhole/makewhole/Interpolation$Side;"), (2, u "BELOW"), (2, u "$VALUES"), (0, u "[Lcom/example/makewhole/makewhole/Interpolation$Side;"), (6, .class_ 22), (1, u "java/lang/Enum"), (25, .class_ 49), (0, u "com/example/makewhole/makewhole/Interpolation")] 2

/-- com/example/makewhole/makewhole/Interpolation$Side -/
def k6 : Class := { plain "com/example/makewhole/makewhole/Interpolation$Side" (some 5) with
  accessFlags := 16433
  interfaces := #[]
  cf := some (fileOf pool6 1 #[.nestHost 48] #[] 16433 20 #[] #[{ accessFlags := 16409, nameIndex := 5, descriptorIndex := 6, attributes := #[] }, { accessFlags := 16409, nameIndex := 9, descriptorIndex := 6, attributes := #[] }, { accessFlags := 4122, nameIndex := 12, descriptorIndex := 13, attributes := #[] }])
  fields := #[{ name := "ABOVE", type := (.object "com/example/makewhole/makewhole/Interpolation$Side"), accessFlags := 16409, slot := 0, constantValue := 0 }, { name := "BELOW", type := (.object "com/example/makewhole/makewhole/Interpolation$Side"), accessFlags := 16409, slot := 1, constantValue := 0 }, { name := "$VALUES", type := (.array (.object "com/example/makewhole/makewhole/Interpolation$Side")), accessFlags := 4122, slot := 2, constantValue := 0 }]
  methods := #[]
  instanceTypes := #[(.object "java/lang/String"), .int, .int]
  staticTypes := #[(.object "com/example/makewhole/makewhole/Interpolation$Side"), (.object "com/example/makewhole/makewhole/Interpolation$Side"), (.array (.object "com/example/makewhole/makewhole/Interpolation$Side"))]
  resolved := Array.replicate 52 none
  statics := some 0 }

def pool7 : Array CpInfo := pool [(1, .methodref 2 3), (0, .class_ 4), (0, .nameAndType 5 6), (0, u "java/lang/Object"), (0, u "<init>"), (0, u "()V"), (0, .class_ 8), (0, u "java/lang/Record")] 13

def k7c0 : Code := { maxStack := 1, maxLocals := 1, code := jdk_30_method_1_code, exceptionTable := #[], attributes := #[] }
def k7m0 : Method := { name := "<init>", desc := "()V", sig := { parameters := [], returnType := none }, accessFlags := 4, code := some k7c0 }
/-- java/lang/Record -/
def k7 : Class := { plain "java/lang/Record" (some 0) with
  accessFlags := 1057
  interfaces := #[]
  cf := some (fileOf pool7 7 #[] #[{ accessFlags := 4, nameIndex := 5, descriptorIndex := 6, attributes := #[] }] 1057 2 #[] #[])
  fields := #[]
  methods := #[k7m0]
  instanceTypes := #[]
  staticTypes := #[]
  resolved := Array.replicate 22 none
  statics := none }

def pool8 : Array CpInfo := pool [(1, .methodref 2 3), (0, .class_ 4), (0, .nameAndType 5 6), (0, u "java/lang/Record"), (0, u "<init>"), (0, u "()V"), (0, .fieldref 8 9), (0, .class_ 10), (0, .nameAndType 11 12), (0, u "com/example/makewhole/makewhole/Interpolation"), (0, u "outside"), (0, u "Lcom/example/makewhole/makewhole/Interpolation$Side;"), (0, .fieldref 8 14), (0, .nameAndType 15 16), (0, u "prices"), (0, u "Ljava/util/List;"), (0, .fieldref 8 18), (0, .nameAndType 19 16), (0, u "dates"), (0, .fieldref 8 21), (0, .nameAndType 22 16), (0, u "cells"), (0, .fieldref 8 24), (0, .nameAndType 25 26), (0, u "priceWeight"), (0, u "Lcom/example/makewhole/makewhole/Fraction;"), (0, .fieldref 8 28), (0, .nameAndType 29 26), (0, u "dateWeight"), (0, .fieldref 8 31), (0, .nameAndType 32 26), (0, u "value"), (0, .fieldref 34 35), (0, .class_ 36), (0, .nameAndType 37 26), (0, u "com/example/makewhole/makewhole/Fraction"), (0, u "ZERO"), (0, .methodref 8 39), (0, .nameAndType 5 40), (0, u "(Lcom/example/makewhole/makewhole/Interpolation$Side;Ljava/util/List;Ljava/util/List;Ljava/util/List;Lcom/example/makewhole/makewhole/Fraction;Lcom/example/makewhole/makewhole/Fraction;Lcom/example/makewhole/makewhole/Fraction;)V"), (10, u "()Lcom/example/makewhole/makewhole/Fraction;"), (34, u "(Lcom/example/makewhole/makewhole/Interpolation$Side;)Lcom/example/makewhole/makewhole/Interpolation;"), (6, u "()Lcom/example/makewhole/makewhole/Interpolation$Side;"), (0, u "()Ljava/util/List;"), (6, .class_ 102), (0, u "com/example/makewhole/makewhole/Interpolation$Side")] 25

def k8c0 : Code := { maxStack := 2, maxLocals := 8, code := prog_15_method_1_code, exceptionTable := #[], attributes := #[] }
def k8m0 : Method := { name := "<init>", desc := "(Lcom/example/makewhole/makewhole/Interpolation$Side;Ljava/util/List;Ljava/util/List;Ljava/util/List;Lcom/example/makewhole/makewhole/Fraction;Lcom/example/makewhole/makewhole/Fraction;Lcom/example/makewhole/makewhole/Fraction;)V", sig := { parameters := [(.object "com/example/makewhole/makewhole/Interpolation$Side"), (.object "java/util/List"), (.object "java/util/List"), (.object "java/util/List"), (.object "com/example/makewhole/makewhole/Fraction"), (.object "com/example/makewhole/makewhole/Fraction"), (.object "com/example/makewhole/makewhole/Fraction")], returnType := none }, accessFlags := 1, code := some k8c0 }
def k8c1 : Code := { maxStack := 9, maxLocals := 1, code := prog_15_method_2_code, exceptionTable := #[], attributes := #[] }
def k8m1 : Method := { name := "outside", desc := "(Lcom/example/makewhole/makewhole/Interpolation$Side;)Lcom/example/makewhole/makewhole/Interpolation;", sig := { parameters := [(.object "com/example/makewhole/makewhole/Interpolation$Side")], returnType := some (.object "com/example/makewhole/makewhole/Interpolation") }, accessFlags := 8, code := some k8c1 }
def k8c2 : Code := { maxStack := 1, maxLocals := 1, code := prog_15_method_8_code, exceptionTable := #[], attributes := #[] }
def k8m2 : Method := { name := "outside", desc := "()Lcom/example/makewhole/makewhole/Interpolation$Side;", sig := { parameters := [], returnType := some (.object "com/example/makewhole/makewhole/Interpolation$Side") }, accessFlags := 1, code := some k8c2 }
def k8c3 : Code := { maxStack := 1, maxLocals := 1, code := prog_15_method_9_code, exceptionTable := #[], attributes := #[] }
def k8m3 : Method := { name := "prices", desc := "()Ljava/util/List;", sig := { parameters := [], returnType := some (.object "java/util/List") }, accessFlags := 1, code := some k8c3 }
def k8c4 : Code := { maxStack := 1, maxLocals := 1, code := prog_15_method_10_code, exceptionTable := #[], attributes := #[] }
def k8m4 : Method := { name := "dates", desc := "()Ljava/util/List;", sig := { parameters := [], returnType := some (.object "java/util/List") }, accessFlags := 1, code := some k8c4 }
def k8c5 : Code := { maxStack := 1, maxLocals := 1, code := prog_15_method_11_code, exceptionTable := #[], attributes := #[] }
def k8m5 : Method := { name := "cells", desc := "()Ljava/util/List;", sig := { parameters := [], returnType := some (.object "java/util/List") }, accessFlags := 1, code := some k8c5 }
def k8c6 : Code := { maxStack := 1, maxLocals := 1, code := prog_15_method_12_code, exceptionTable := #[], attributes := #[] }
def k8m6 : Method := { name := "priceWeight", desc := "()Lcom/example/makewhole/makewhole/Fraction;", sig := { parameters := [], returnType := some (.object "com/example/makewhole/makewhole/Fraction") }, accessFlags := 1, code := some k8c6 }
def k8c7 : Code := { maxStack := 1, maxLocals := 1, code := prog_15_method_13_code, exceptionTable := #[], attributes := #[] }
def k8m7 : Method := { name := "dateWeight", desc := "()Lcom/example/makewhole/makewhole/Fraction;", sig := { parameters := [], returnType := some (.object "com/example/makewhole/makewhole/Fraction") }, accessFlags := 1, code := some k8c7 }
def k8c8 : Code := { maxStack := 1, maxLocals := 1, code := prog_15_method_14_code, exceptionTable := #[], attributes := #[] }
def k8m8 : Method := { name := "value", desc := "()Lcom/example/makewhole/makewhole/Fraction;", sig := { parameters := [], returnType := some (.object "com/example/makewhole/makewhole/Fraction") }, accessFlags := 1, code := some k8c8 }
/-- com/example/makewhole/makewhole/Interpolation -/
def k8 : Class := { plain "com/example/makewhole/makewhole/Interpolation" (some 7) with
  accessFlags := 49
  interfaces := #[]
  cf := some (fileOf pool8 8 #[.nestMembers #[101]] #[{ accessFlags := 1, nameIndex := 5, descriptorIndex := 40, attributes := #[] }, { accessFlags := 8, nameIndex := 11, descriptorIndex := 86, attributes := #[] }, { accessFlags := 1, nameIndex := 11, descriptorIndex := 93, attributes := #[] }, { accessFlags := 1, nameIndex := 15, descriptorIndex := 94, attributes := #[] }, { accessFlags := 1, nameIndex := 19, descriptorIndex := 94, attributes := #[] }, { accessFlags := 1, nameIndex := 22, descriptorIndex := 94, attributes := #[] }, { accessFlags := 1, nameIndex := 25, descriptorIndex := 51, attributes := #[] }, { accessFlags := 1, nameIndex := 29, descriptorIndex := 51, attributes := #[] }, { accessFlags := 1, nameIndex := 32, descriptorIndex := 51, attributes := #[] }] 49 2 #[] #[{ accessFlags := 18, nameIndex := 11, descriptorIndex := 12, attributes := #[] }, { accessFlags := 18, nameIndex := 15, descriptorIndex := 16, attributes := #[] }, { accessFlags := 18, nameIndex := 19, descriptorIndex := 16, attributes := #[] }, { accessFlags := 18, nameIndex := 22, descriptorIndex := 16, attributes := #[] }, { accessFlags := 18, nameIndex := 25, descriptorIndex := 26, attributes := #[] }, { accessFlags := 18, nameIndex := 29, descriptorIndex := 26, attributes := #[] }, { accessFlags := 18, nameIndex := 32, descriptorIndex := 26, attributes := #[] }])
  fields := #[{ name := "outside", type := (.object "com/example/makewhole/makewhole/Interpolation$Side"), accessFlags := 18, slot := 0, constantValue := 0 }, { name := "prices", type := (.object "java/util/List"), accessFlags := 18, slot := 1, constantValue := 0 }, { name := "dates", type := (.object "java/util/List"), accessFlags := 18, slot := 2, constantValue := 0 }, { name := "cells", type := (.object "java/util/List"), accessFlags := 18, slot := 3, constantValue := 0 }, { name := "priceWeight", type := (.object "com/example/makewhole/makewhole/Fraction"), accessFlags := 18, slot := 4, constantValue := 0 }, { name := "dateWeight", type := (.object "com/example/makewhole/makewhole/Fraction"), accessFlags := 18, slot := 5, constantValue := 0 }, { name := "value", type := (.object "com/example/makewhole/makewhole/Fraction"), accessFlags := 18, slot := 6, constantValue := 0 }]
  methods := #[k8m0, k8m1, k8m2, k8m3, k8m4, k8m5, k8m6, k8m7, k8m8]
  instanceTypes := #[(.object "com/example/makewhole/makewhole/Interpolation$Side"), (.object "java/util/List"), (.object "java/util/List"), (.object "java/util/List"), (.object "com/example/makewhole/makewhole/Fraction"), (.object "com/example/makewhole/makewhole/Fraction"), (.object "com/example/makewhole/makewhole/Fraction")]
  staticTypes := #[]
  resolved := Array.replicate 128 none
  statics := none }

def pool9 : Array CpInfo := pool [(2, .class_ 4), (1, u "java/lang/Object"), (2, .fieldref 8 9), (0, .class_ 10), (0, .nameAndType 11 12), (0, u "com/example/makewhole/makewhole/Fraction"), (0, u "numerator"), (0, u "Ljava/math/BigInteger;"), (0, .fieldref 8 14), (0, .nameAndType 15 12), (0, u "denominator"), (5, .class_ 23), (1, u "java/math/BigInteger"), (96, .methodref 21 121), (0, .nameAndType 122 123), (0, u "equals"), (0, u "(Ljava/lang/Object;)Z"), (15, u "ZERO"), (2, u "Lcom/example/makewhole/makewhole/Fraction;"), (0, .class_ 144), (0, u "java/lang/Comparable"), (0, u "MAX_EXPONENT"), (0, u "I")] 35

def k9c0 : Code := { maxStack := 2, maxLocals := 2, code := prog_11_method_12_code, exceptionTable := #[], attributes := #[] }
def k9m0 : Method := { name := "equals", desc := "(Ljava/lang/Object;)Z", sig := { parameters := [(.object "java/lang/Object")], returnType := some .boolean }, accessFlags := 1, code := some k9c0 }
/-- com/example/makewhole/makewhole/Fraction -/
def k9 : Class := { plain "com/example/makewhole/makewhole/Fraction" (some 0) with
  accessFlags := 49
  interfaces := #[3]
  cf := some (fileOf pool9 8 #[] #[{ accessFlags := 1, nameIndex := 122, descriptorIndex := 123, attributes := #[] }] 49 2 #[143] #[{ accessFlags := 25, nameIndex := 139, descriptorIndex := 142, attributes := #[] }, { accessFlags := 25, nameIndex := 145, descriptorIndex := 146, attributes := #[] }, { accessFlags := 18, nameIndex := 11, descriptorIndex := 12, attributes := #[] }, { accessFlags := 18, nameIndex := 15, descriptorIndex := 12, attributes := #[] }])
  fields := #[{ name := "ZERO", type := (.object "com/example/makewhole/makewhole/Fraction"), accessFlags := 25, slot := 0, constantValue := 0 }, { name := "MAX_EXPONENT", type := .int, accessFlags := 25, slot := 1, constantValue := 0 }, { name := "numerator", type := (.object "java/math/BigInteger"), accessFlags := 18, slot := 0, constantValue := 0 }, { name := "denominator", type := (.object "java/math/BigInteger"), accessFlags := 18, slot := 1, constantValue := 0 }]
  methods := #[k9m0]
  instanceTypes := #[(.object "java/math/BigInteger"), (.object "java/math/BigInteger")]
  staticTypes := #[(.object "com/example/makewhole/makewhole/Fraction"), .int]
  resolved := Array.replicate 182 none
  statics := some 1 }

def pool10 : Array CpInfo := pool [(2, .class_ 4), (1, u "java/lang/Object"), (0, u "<init>"), (0, u "()V"), (1, .class_ 10), (1, u "java/lang/Number"), (2, .class_ 14), (0, u "java/io/Serializable"), (0, u "serialVersionUID"), (0, u "J")] 20

def k10m0 : Method := { name := "<init>", desc := "()V", sig := { parameters := [], returnType := none }, accessFlags := 1, code := none }
/-- java/lang/Number -/
def k10 : Class := { plain "java/lang/Number" (some 0) with
  accessFlags := 1057
  interfaces := #[4]
  cf := some (fileOf pool10 8 #[] #[{ accessFlags := 1, nameIndex := 5, descriptorIndex := 6, attributes := #[] }] 1057 2 #[13] #[{ accessFlags := 26, nameIndex := 15, descriptorIndex := 16, attributes := #[] }])
  fields := #[{ name := "serialVersionUID", type := .long, accessFlags := 26, slot := 0, constantValue := 0 }]
  methods := #[k10m0]
  instanceTypes := #[]
  staticTypes := #[.long]
  resolved := Array.replicate 37 none
  statics := none }

def pool11 : Array CpInfo := pool [(4, .class_ 6), (1, u "java/lang/Number"), (16, .class_ 25), (1, u "java/math/BigInteger"), (0, u "ZERO"), (0, u "Ljava/math/BigInteger;"), (2, u "mag"), (0, u "[I"), (2, u "signum"), (0, u "I"), (59, u "bitsPerDigit"), (0, u "[J"), (9, u "digitsPerInt"), (12, u "intRadix"), (60, u "SMALL_PRIME_PRODUCT"), (79, u "ONE"), (2, u "equals"), (0, u "(Ljava/lang/Object;)Z"), (2, u "TWO"), (43, u "$assertionsDisabled"), (0, u "Z"), (36, u "posConst"), (0, u "[Ljava/math/BigInteger;"), (4, u "negConst"), (116, .class_ 474), (1, u "java/math/BigInteger$RecursiveOp"), (106, u "NEGATIVE_ONE"), (91, u "bnExpModThreshTable"), (72, u "lowestSetBitPlusTwo"), (2, u "bitLengthPlusOne"), (2, u "bitCountPlusOne"), (6, u "LOG_TWO"), (0, u "D"), (2, u "logCache"), (0, u "[D"), (13, u "NUM_ZEROS"), (2, u "ZEROS"), (0, u "Ljava/lang/String;"), (9, u "longRadix"), (5, u "digitsPerLong"), (22, u "powerCache"), (0, u "[[Ljava/math/BigInteger;"), (45, u "firstNonzeroIntNumPlusTwo"), (38, .class_ 909), (1, u "java/math/BigInteger$UnsafeHolder"), (141, u "TEN"), (106, u "serialPersistentFields"), (0, u "[Ljava/io/ObjectStreamField;"), (0, .class_ 1161), (0, u "java/lang/Comparable"), (0, u "LONG_MASK"), (0, u "J"), (1, u "MAX_MAG_LENGTH"), (0, u "PRIME_SEARCH_BIT_LENGTH_LIMIT"), (1, u "KARATSUBA_THRESHOLD"), (1, u "TOOM_COOK_THRESHOLD"), (1, u "KARATSUBA_SQUARE_THRESHOLD"), (1, u "TOOM_COOK_SQUARE_THRESHOLD"), (1, u "BURNIKEL_ZIEGLER_THRESHOLD"), (0, u "BURNIKEL_ZIEGLER_OFFSET"), (1, u "SCHOENHAGE_BASE_CONVERSION_THRESHOLD"), (1, u "MULTIPLY_SQUARE_THRESHOLD"), (0, u "MONTGOMERY_INTRINSIC_THRESHOLD"), (1, u "SMALL_PRIME_THRESHOLD"), (1, u "DEFAULT_PRIME_CERTAINTY"), (1, u "MAX_CONSTANT"), (3, u "serialVersionUID"), (338, .class_ 1532), (0, u "java/math/BigInteger$RecursiveOp$RecursiveSquare"), (0, .class_ 1534), (0, u "java/math/BigInteger$RecursiveOp$RecursiveMultiply")] 7

def k11c0 : Code := { maxStack := 3, maxLocals := 7, code := jdk_2097_method_124_code, exceptionTable := #[], attributes := #[] }
def k11m0 : Method := { name := "equals", desc := "(Ljava/lang/Object;)Z", sig := { parameters := [(.object "java/lang/Object")], returnType := some .boolean }, accessFlags := 1, code := some k11c0 }
/-- java/math/BigInteger -/
def k11 : Class := { plain "java/math/BigInteger" (some 10) with
  accessFlags := 33
  interfaces := #[3]
  cf := some (fileOf pool11 23 #[.nestMembers #[907, 472, 1531, 1533]] #[{ accessFlags := 1, nameIndex := 263, descriptorIndex := 264, attributes := #[] }] 33 4 #[1160] #[{ accessFlags := 16, nameIndex := 34, descriptorIndex := 35, attributes := #[] }, { accessFlags := 16, nameIndex := 30, descriptorIndex := 31, attributes := #[] }, { accessFlags := 2, nameIndex := 752, descriptorIndex := 35, attributes := #[] }, { accessFlags := 2, nameIndex := 749, descriptorIndex := 35, attributes := #[] }, { accessFlags := 2, nameIndex := 746, descriptorIndex := 35, attributes := #[] }, { accessFlags := 2, nameIndex := 868, descriptorIndex := 35, attributes := #[] }, { accessFlags := 24, nameIndex := 1162, descriptorIndex := 1163, attributes := #[] }, { accessFlags := 26, nameIndex := 1165, descriptorIndex := 35, attributes := #[] }, { accessFlags := 26, nameIndex := 1166, descriptorIndex := 35, attributes := #[] }, { accessFlags := 26, nameIndex := 1168, descriptorIndex := 35, attributes := #[] }, { accessFlags := 26, nameIndex := 1170, descriptorIndex := 35, attributes := #[] }, { accessFlags := 26, nameIndex := 1172, descriptorIndex := 35, attributes := #[] }, { accessFlags := 26, nameIndex := 1174, descriptorIndex := 35, attributes := #[] }, { accessFlags := 24, nameIndex := 1176, descriptorIndex := 35, attributes := #[] }, { accessFlags := 24, nameIndex := 1177, descriptorIndex := 35, attributes := #[] }, { accessFlags := 26, nameIndex := 1179, descriptorIndex := 35, attributes := #[] }, { accessFlags := 26, nameIndex := 1181, descriptorIndex := 35, attributes := #[] }, { accessFlags := 26, nameIndex := 1182, descriptorIndex := 35, attributes := #[] }, { accessFlags := 10, nameIndex := 95, descriptorIndex := 96, attributes := #[] }, { accessFlags := 26, nameIndex := 1184, descriptorIndex := 35, attributes := #[] }, { accessFlags := 26, nameIndex := 1186, descriptorIndex := 35, attributes := #[] }, { accessFlags := 26, nameIndex := 180, descriptorIndex := 27, attributes := #[] }, { accessFlags := 26, nameIndex := 1188, descriptorIndex := 35, attributes := #[] }, { accessFlags := 26, nameIndex := 349, descriptorIndex := 350, attributes := #[] }, { accessFlags := 26, nameIndex := 355, descriptorIndex := 350, attributes := #[] }, { accessFlags := 74, nameIndex := 821, descriptorIndex := 822, attributes := #[] }, { accessFlags := 26, nameIndex := 763, descriptorIndex := 764, attributes := #[] }, { accessFlags := 26, nameIndex := 759, descriptorIndex := 760, attributes := #[] }, { accessFlags := 25, nameIndex := 26, descriptorIndex := 27, attributes := #[] }, { accessFlags := 25, nameIndex := 260, descriptorIndex := 27, attributes := #[] }, { accessFlags := 25, nameIndex := 267, descriptorIndex := 27, attributes := #[] }, { accessFlags := 26, nameIndex := 581, descriptorIndex := 27, attributes := #[] }, { accessFlags := 25, nameIndex := 1051, descriptorIndex := 27, attributes := #[] }, { accessFlags := 8, nameIndex := 673, descriptorIndex := 31, attributes := #[] }, { accessFlags := 10, nameIndex := 778, descriptorIndex := 35, attributes := #[] }, { accessFlags := 26, nameIndex := 781, descriptorIndex := 782, attributes := #[] }, { accessFlags := 10, nameIndex := 798, descriptorIndex := 31, attributes := #[] }, { accessFlags := 10, nameIndex := 792, descriptorIndex := 350, attributes := #[] }, { accessFlags := 10, nameIndex := 106, descriptorIndex := 31, attributes := #[] }, { accessFlags := 10, nameIndex := 119, descriptorIndex := 31, attributes := #[] }, { accessFlags := 26, nameIndex := 1192, descriptorIndex := 1163, attributes := #[] }, { accessFlags := 26, nameIndex := 1158, descriptorIndex := 1159, attributes := #[] }, { accessFlags := 4120, nameIndex := 311, descriptorIndex := 312, attributes := #[] }])
  fields := #[{ name := "signum", type := .int, accessFlags := 16, slot := 0, constantValue := 0 }, { name := "mag", type := (.array .int), accessFlags := 16, slot := 1, constantValue := 0 }, { name := "bitCountPlusOne", type := .int, accessFlags := 2, slot := 2, constantValue := 0 }, { name := "bitLengthPlusOne", type := .int, accessFlags := 2, slot := 3, constantValue := 0 }, { name := "lowestSetBitPlusTwo", type := .int, accessFlags := 2, slot := 4, constantValue := 0 }, { name := "firstNonzeroIntNumPlusTwo", type := .int, accessFlags := 2, slot := 5, constantValue := 0 }, { name := "LONG_MASK", type := .long, accessFlags := 24, slot := 0, constantValue := 0 }, { name := "MAX_MAG_LENGTH", type := .int, accessFlags := 26, slot := 1, constantValue := 0 }, { name := "PRIME_SEARCH_BIT_LENGTH_LIMIT", type := .int, accessFlags := 26, slot := 2, constantValue := 0 }, { name := "KARATSUBA_THRESHOLD", type := .int, accessFlags := 26, slot := 3, constantValue := 0 }, { name := "TOOM_COOK_THRESHOLD", type := .int, accessFlags := 26, slot := 4, constantValue := 0 }, { name := "KARATSUBA_SQUARE_THRESHOLD", type := .int, accessFlags := 26, slot := 5, constantValue := 0 }, { name := "TOOM_COOK_SQUARE_THRESHOLD", type := .int, accessFlags := 26, slot := 6, constantValue := 0 }, { name := "BURNIKEL_ZIEGLER_THRESHOLD", type := .int, accessFlags := 24, slot := 7, constantValue := 0 }, { name := "BURNIKEL_ZIEGLER_OFFSET", type := .int, accessFlags := 24, slot := 8, constantValue := 0 }, { name := "SCHOENHAGE_BASE_CONVERSION_THRESHOLD", type := .int, accessFlags := 26, slot := 9, constantValue := 0 }, { name := "MULTIPLY_SQUARE_THRESHOLD", type := .int, accessFlags := 26, slot := 10, constantValue := 0 }, { name := "MONTGOMERY_INTRINSIC_THRESHOLD", type := .int, accessFlags := 26, slot := 11, constantValue := 0 }, { name := "bitsPerDigit", type := (.array .long), accessFlags := 10, slot := 12, constantValue := 0 }, { name := "SMALL_PRIME_THRESHOLD", type := .int, accessFlags := 26, slot := 13, constantValue := 0 }, { name := "DEFAULT_PRIME_CERTAINTY", type := .int, accessFlags := 26, slot := 14, constantValue := 0 }, { name := "SMALL_PRIME_PRODUCT", type := (.object "java/math/BigInteger"), accessFlags := 26, slot := 15, constantValue := 0 }, { name := "MAX_CONSTANT", type := .int, accessFlags := 26, slot := 16, constantValue := 0 }, { name := "posConst", type := (.array (.object "java/math/BigInteger")), accessFlags := 26, slot := 17, constantValue := 0 }, { name := "negConst", type := (.array (.object "java/math/BigInteger")), accessFlags := 26, slot := 18, constantValue := 0 }, { name := "powerCache", type := (.array (.array (.object "java/math/BigInteger"))), accessFlags := 74, slot := 19, constantValue := 0 }, { name := "logCache", type := (.array .double), accessFlags := 26, slot := 20, constantValue := 0 }, { name := "LOG_TWO", type := .double, accessFlags := 26, slot := 21, constantValue := 0 }, { name := "ZERO", type := (.object "java/math/BigInteger"), accessFlags := 25, slot := 22, constantValue := 0 }, { name := "ONE", type := (.object "java/math/BigInteger"), accessFlags := 25, slot := 23, constantValue := 0 }, { name := "TWO", type := (.object "java/math/BigInteger"), accessFlags := 25, slot := 24, constantValue := 0 }, { name := "NEGATIVE_ONE", type := (.object "java/math/BigInteger"), accessFlags := 26, slot := 25, constantValue := 0 }, { name := "TEN", type := (.object "java/math/BigInteger"), accessFlags := 25, slot := 26, constantValue := 0 }, { name := "bnExpModThreshTable", type := (.array .int), accessFlags := 8, slot := 27, constantValue := 0 }, { name := "NUM_ZEROS", type := .int, accessFlags := 10, slot := 28, constantValue := 0 }, { name := "ZEROS", type := (.object "java/lang/String"), accessFlags := 26, slot := 29, constantValue := 0 }, { name := "digitsPerLong", type := (.array .int), accessFlags := 10, slot := 30, constantValue := 0 }, { name := "longRadix", type := (.array (.object "java/math/BigInteger")), accessFlags := 10, slot := 31, constantValue := 0 }, { name := "digitsPerInt", type := (.array .int), accessFlags := 10, slot := 32, constantValue := 0 }, { name := "intRadix", type := (.array .int), accessFlags := 10, slot := 33, constantValue := 0 }, { name := "serialVersionUID", type := .long, accessFlags := 26, slot := 34, constantValue := 0 }, { name := "serialPersistentFields", type := (.array (.object "java/io/ObjectStreamField")), accessFlags := 26, slot := 35, constantValue := 0 }, { name := "$assertionsDisabled", type := .boolean, accessFlags := 4120, slot := 36, constantValue := 0 }]
  methods := #[k11m0]
  instanceTypes := #[.int, (.array .int), .int, .int, .int, .int]
  staticTypes := #[.long, .int, .int, .int, .int, .int, .int, .int, .int, .int, .int, .int, (.array .long), .int, .int, (.object "java/math/BigInteger"), .int, (.array (.object "java/math/BigInteger")), (.array (.object "java/math/BigInteger")), (.array (.array (.object "java/math/BigInteger"))), (.array .double), .double, (.object "java/math/BigInteger"), (.object "java/math/BigInteger"), (.object "java/math/BigInteger"), (.object "java/math/BigInteger"), (.object "java/math/BigInteger"), (.array .int), .int, (.object "java/lang/String"), (.array .int), (.array (.object "java/math/BigInteger")), (.array .int), (.array .int), .long, (.array (.object "java/io/ObjectStreamField")), .boolean]
  resolved := Array.replicate 1542 none
  statics := none }

def pool12 : Array CpInfo := pool [(1, u "java/lang/Cloneable"), (0, .class_ 1), (0, u "java/lang/Object"), (0, .class_ 3)] 3

/-- java/lang/Cloneable -/
def k12 : Class := { plain "java/lang/Cloneable" (some 0) with
  accessFlags := 1537
  interfaces := #[]
  cf := some (fileOf pool12 2 #[] #[] 1537 4 #[] #[])
  fields := #[]
  methods := #[]
  instanceTypes := #[]
  staticTypes := #[]
  resolved := Array.replicate 8 none
  statics := none }

/-- the primitive byte -/
def k13 : Class := { plain "byte" none with kind := .primitive 'B', accessFlags := 0x411 }
/-- [B -/
def k14 : Class := { plain "[B" (some 0) with kind := .array 13 .byte, interfaces := #[12, 4], accessFlags := 1041 }

/-- the primitive int -/
def k15 : Class := { plain "int" none with kind := .primitive 'I', accessFlags := 0x411 }
/-- [I -/
def k16 : Class := { plain "[I" (some 0) with kind := .array 15 .int, interfaces := #[12, 4], accessFlags := 1041 }

def heap : Heap := #[{ cls := 6, slots := #[.ref 3, .ref 2, .null], vm := .statics 6 },
  { cls := 9, slots := #[.ref 6, .int 0], vm := .statics 9 },
  { cls := 6, slots := #[.null, .int 0, .int 0], vm := .none },
  { cls := 6, slots := #[.null, .int 1, .int 0], vm := .none },
  { cls := 11, slots := #[.int 0, .null, .int 0, .int 0, .int 0, .int 0], vm := .none },
  { cls := 11, slots := #[.int 1, .null, .int 0, .int 0, .int 0, .int 0], vm := .none },
  { cls := 9, slots := #[.ref 4, .ref 5], vm := .none }]
def classes : Array Class := #[k0, k1, k2, k3, k4, k5, k6, k7, k8, k9, k10, k11, k12, k13, k14, k15, k16]
def interned : List (Array UInt16 × Addr) := []
def slotsUsed : Nat := 25
def theMethod : MethodId := ⟨1, 1⟩
def args0 : Array Value := #[.int 5]
def aboutOver (below : List Frame) : State where
  vm := { classes := classes, interned := interned.toArray }
  heap := heap
  slotsUsed := slotsUsed
  threads := #[{ frames := .invoking theMethod args0 :: below }]
def below0 : List Frame := [.native { method := ⟨0, 0⟩, args := #[] }]
def about1 : State := aboutOver below0
def p0 : Program := .bare "" "" ""
def e0 : Env := launch0.env 0 0 0
theorem w_frames : about1.frames = Frame.invoking theMethod args0 :: below0 := rfl
set_option maxRecDepth 65536 in
theorem w_args : argsFit about1.vm theMethod args0 = true := by decide +kernel
set_option maxRecDepth 65536 in
theorem w_heap : heapFits about1 = true := by decide +kernel
set_option maxRecDepth 65536 in
theorem w_runnable : about1.curStatus? = some .runnable := by decide +kernel
set_option maxRecDepth 65536 in
theorem w_alone : about1.alone = true := by decide +kernel
set_option maxRecDepth 65536 in
theorem w_named : about1.methodNamed? x = some theMethod := by decide +kernel
set_option maxRecDepth 65536 in
theorem w_hears : about1.hears theMethod below0 = true := by decide +kernel
set_option maxRecDepth 65536 in
theorem w_ripe : about1.ripe theMethod args0 below0 = true := by decide +kernel
theorem w_running : about1.status = .running := rfl
set_option maxRecDepth 65536 in
theorem w_room : about1.hasRoom e0.platform room_1 = true :=
  launch0.hasRoom_least _ room_1 (by decide +kernel) (by decide +kernel) (by decide +kernel) (by decide +kernel) (by decide +kernel) (by decide +kernel)
theorem allAtoms_all (ts : List Jvm.Cond) (a : Array Jvm.Value) (st : Jvm.State) : (allAtoms ts).before a st = ts.all (fun c => c.before a st) := by
  induction ts with
  | nil => rfl
  | cons c t ih =>
    show (Jvm.Cond.and c (allAtoms t)).before a st = _
    rw [Jvm.Cond.before_and, ih, List.all_cons]
def words1 : List Jvm.Cond := Jvm.Cond.code x code maxLocals ret :: tables_1
/-- a 'code' word, met by the world's own term for the bytes: nothing is compared byte by byte -/
theorem code_word {y : MethodName} {bytes : ByteArray} {mx : Nat} {rt : Option FieldType} {a : Array Value} {s : State} {m : MethodId} {meth : Method} {c : Code} (h1 : s.methodNamed? y = some m) (h2 : s.vm.method? m = some meth) (h3 : meth.code = some c) (h4 : c.code = bytes)
    (h5 : (c.maxLocals == mx && c.exceptionTable.isEmpty && decide (c.maxStack ≤ mostOperands) && decide (meth.sig.returnType = rt) && !meth.locks && decide (parseMethodDescriptor y.desc = some meth.sig)) = true) : (Jvm.Cond.code y bytes mx rt).before a s = true := by
  simp only [Bool.and_eq_true, beq_iff_eq, Bool.not_eq_true', decide_eq_true_eq] at h5
  obtain ⟨⟨⟨⟨⟨g1, g2⟩, g3⟩, g4⟩, g5⟩, g6⟩ := h5
  simp [Cond.before, Cond.holds, Cond.value, h1, h2, h3, h4, g1, g2, g3, g4, g5, g6]
def isCode : Jvm.Cond → Bool
  | .code _ _ _ _ => true
  | _ => false
theorem all_split {L : List Jvm.Cond} {P : Jvm.Cond → Bool} (h1 : L.all (fun c => isCode c || P c) = true) (h2 : ∀ c ∈ L.filter isCode, P c = true) : L.all P = true := by
  refine List.all_eq_true.mpr fun c hc => ?_
  have h := List.all_eq_true.mp h1 c hc
  rcases Bool.eq_false_or_eq_true (isCode c) with hi | hi
  · exact h2 c (List.mem_filter.mpr ⟨hc, hi⟩)
  · simpa [hi] using h
set_option maxRecDepth 65536 in
theorem w_c0 : (Jvm.Cond.code x code maxLocals ret).before args0 about1 = true := code_word (m := ⟨1, 1⟩) (meth := k1m1) (c := k1c1) (by decide +kernel) rfl rfl rfl (by decide +kernel)
set_option maxRecDepth 65536 in
theorem w_c1 : (Jvm.Cond.code ({ cls := "com/example/makewhole/makewhole/Interpolation", name := "outside", desc := "(Lcom/example/makewhole/makewhole/Interpolation$Side;)Lcom/example/makewhole/makewhole/Interpolation;" } : Jvm.MethodName) prog_15_method_2_code (1 : Nat) (Option.some (Jvm.ClassFile.FieldType.object "com/example/makewhole/makewhole/Interpolation"))).before args0 about1 = true := code_word (m := ⟨8, 1⟩) (meth := k8m1) (c := k8c1) (by decide +kernel) rfl rfl rfl (by decide +kernel)
set_option maxRecDepth 65536 in
theorem w_c2 : (Jvm.Cond.code ({ cls := "com/example/makewhole/makewhole/Interpolation", name := "<init>", desc := "(Lcom/example/makewhole/makewhole/Interpolation$Side;Ljava/util/List;Ljava/util/List;Ljava/util/List;Lcom/example/makewhole/makewhole/Fraction;Lcom/example/makewhole/makewhole/Fraction;Lcom/example/makewhole/makewhole/Fraction;)V" } : Jvm.MethodName) prog_15_method_1_code (8 : Nat) (Option.none : Option Jvm.ClassFile.FieldType)).before args0 about1 = true := code_word (m := ⟨8, 0⟩) (meth := k8m0) (c := k8c0) (by decide +kernel) rfl rfl rfl (by decide +kernel)
set_option maxRecDepth 65536 in
theorem w_c3 : (Jvm.Cond.code ({ cls := "java/lang/Record", name := "<init>", desc := "()V" } : Jvm.MethodName) jdk_30_method_1_code (1 : Nat) (Option.none : Option Jvm.ClassFile.FieldType)).before args0 about1 = true := code_word (m := ⟨7, 0⟩) (meth := k7m0) (c := k7c0) (by decide +kernel) rfl rfl rfl (by decide +kernel)
set_option maxRecDepth 65536 in
theorem w_c4 : (Jvm.Cond.code ({ cls := "java/lang/Object", name := "<init>", desc := "()V" } : Jvm.MethodName) object_method_1_code (1 : Nat) (Option.none : Option Jvm.ClassFile.FieldType)).before args0 about1 = true := code_word (m := ⟨0, 0⟩) (meth := k0m0) (c := k0c0) (by decide +kernel) rfl rfl rfl (by decide +kernel)
set_option maxRecDepth 65536 in
theorem w_c5 : (Jvm.Cond.code ({ cls := "com/example/makewhole/makewhole/Interpolation", name := "outside", desc := "()Lcom/example/makewhole/makewhole/Interpolation$Side;" } : Jvm.MethodName) prog_15_method_8_code (1 : Nat) (Option.some (Jvm.ClassFile.FieldType.object "com/example/makewhole/makewhole/Interpolation$Side"))).before args0 about1 = true := code_word (m := ⟨8, 2⟩) (meth := k8m2) (c := k8c2) (by decide +kernel) rfl rfl rfl (by decide +kernel)
set_option maxRecDepth 65536 in
theorem w_c6 : (Jvm.Cond.code ({ cls := "com/example/makewhole/makewhole/Interpolation", name := "prices", desc := "()Ljava/util/List;" } : Jvm.MethodName) prog_15_method_9_code (1 : Nat) (Option.some (Jvm.ClassFile.FieldType.object "java/util/List"))).before args0 about1 = true := code_word (m := ⟨8, 3⟩) (meth := k8m3) (c := k8c3) (by decide +kernel) rfl rfl rfl (by decide +kernel)
set_option maxRecDepth 65536 in
theorem w_c7 : (Jvm.Cond.code ({ cls := "com/example/makewhole/makewhole/Interpolation", name := "dates", desc := "()Ljava/util/List;" } : Jvm.MethodName) prog_15_method_10_code (1 : Nat) (Option.some (Jvm.ClassFile.FieldType.object "java/util/List"))).before args0 about1 = true := code_word (m := ⟨8, 4⟩) (meth := k8m4) (c := k8c4) (by decide +kernel) rfl rfl rfl (by decide +kernel)
set_option maxRecDepth 65536 in
theorem w_c8 : (Jvm.Cond.code ({ cls := "com/example/makewhole/makewhole/Interpolation", name := "cells", desc := "()Ljava/util/List;" } : Jvm.MethodName) prog_15_method_11_code (1 : Nat) (Option.some (Jvm.ClassFile.FieldType.object "java/util/List"))).before args0 about1 = true := code_word (m := ⟨8, 5⟩) (meth := k8m5) (c := k8c5) (by decide +kernel) rfl rfl rfl (by decide +kernel)
set_option maxRecDepth 65536 in
theorem w_c9 : (Jvm.Cond.code ({ cls := "com/example/makewhole/makewhole/Interpolation", name := "priceWeight", desc := "()Lcom/example/makewhole/makewhole/Fraction;" } : Jvm.MethodName) prog_15_method_12_code (1 : Nat) (Option.some (Jvm.ClassFile.FieldType.object "com/example/makewhole/makewhole/Fraction"))).before args0 about1 = true := code_word (m := ⟨8, 6⟩) (meth := k8m6) (c := k8c6) (by decide +kernel) rfl rfl rfl (by decide +kernel)
set_option maxRecDepth 65536 in
theorem w_c10 : (Jvm.Cond.code ({ cls := "com/example/makewhole/makewhole/Interpolation", name := "dateWeight", desc := "()Lcom/example/makewhole/makewhole/Fraction;" } : Jvm.MethodName) prog_15_method_13_code (1 : Nat) (Option.some (Jvm.ClassFile.FieldType.object "com/example/makewhole/makewhole/Fraction"))).before args0 about1 = true := code_word (m := ⟨8, 7⟩) (meth := k8m7) (c := k8c7) (by decide +kernel) rfl rfl rfl (by decide +kernel)
set_option maxRecDepth 65536 in
theorem w_c11 : (Jvm.Cond.code ({ cls := "com/example/makewhole/makewhole/Interpolation", name := "value", desc := "()Lcom/example/makewhole/makewhole/Fraction;" } : Jvm.MethodName) prog_15_method_14_code (1 : Nat) (Option.some (Jvm.ClassFile.FieldType.object "com/example/makewhole/makewhole/Fraction"))).before args0 about1 = true := code_word (m := ⟨8, 8⟩) (meth := k8m8) (c := k8c8) (by decide +kernel) rfl rfl rfl (by decide +kernel)
set_option maxRecDepth 65536 in
theorem w_c12 : (Jvm.Cond.code ({ cls := "com/example/makewhole/makewhole/Fraction", name := "equals", desc := "(Ljava/lang/Object;)Z" } : Jvm.MethodName) prog_11_method_12_code (2 : Nat) (Option.some Jvm.ClassFile.FieldType.boolean)).before args0 about1 = true := code_word (m := ⟨9, 0⟩) (meth := k9m0) (c := k9c0) (by decide +kernel) rfl rfl rfl (by decide +kernel)
set_option maxRecDepth 65536 in
theorem w_c13 : (Jvm.Cond.code ({ cls := "java/math/BigInteger", name := "equals", desc := "(Ljava/lang/Object;)Z" } : Jvm.MethodName) jdk_2097_method_124_code (7 : Nat) (Option.some Jvm.ClassFile.FieldType.boolean)).before args0 about1 = true := code_word (m := ⟨11, 0⟩) (meth := k11m0) (c := k11c0) (by decide +kernel) rfl rfl rfl (by decide +kernel)
def codes1 : List Jvm.Cond := [Jvm.Cond.code x code maxLocals ret, Jvm.Cond.code ({ cls := "com/example/makewhole/makewhole/Interpolation", name := "outside", desc := "(Lcom/example/makewhole/makewhole/Interpolation$Side;)Lcom/example/makewhole/makewhole/Interpolation;" } : Jvm.MethodName) prog_15_method_2_code (1 : Nat) (Option.some (Jvm.ClassFile.FieldType.object "com/example/makewhole/makewhole/Interpolation")), Jvm.Cond.code ({ cls := "com/example/makewhole/makewhole/Interpolation", name := "<init>", desc := "(Lcom/example/makewhole/makewhole/Interpolation$Side;Ljava/util/List;Ljava/util/List;Ljava/util/List;Lcom/example/makewhole/makewhole/Fraction;Lcom/example/makewhole/makewhole/Fraction;Lcom/example/makewhole/makewhole/Fraction;)V" } : Jvm.MethodName) prog_15_method_1_code (8 : Nat) (Option.none : Option Jvm.ClassFile.FieldType), Jvm.Cond.code ({ cls := "java/lang/Record", name := "<init>", desc := "()V" } : Jvm.MethodName) jdk_30_method_1_code (1 : Nat) (Option.none : Option Jvm.ClassFile.FieldType), Jvm.Cond.code ({ cls := "java/lang/Object", name := "<init>", desc := "()V" } : Jvm.MethodName) object_method_1_code (1 : Nat) (Option.none : Option Jvm.ClassFile.FieldType), Jvm.Cond.code ({ cls := "com/example/makewhole/makewhole/Interpolation", name := "outside", desc := "()Lcom/example/makewhole/makewhole/Interpolation$Side;" } : Jvm.MethodName) prog_15_method_8_code (1 : Nat) (Option.some (Jvm.ClassFile.FieldType.object "com/example/makewhole/makewhole/Interpolation$Side")), Jvm.Cond.code ({ cls := "com/example/makewhole/makewhole/Interpolation", name := "prices", desc := "()Ljava/util/List;" } : Jvm.MethodName) prog_15_method_9_code (1 : Nat) (Option.some (Jvm.ClassFile.FieldType.object "java/util/List")), Jvm.Cond.code ({ cls := "com/example/makewhole/makewhole/Interpolation", name := "dates", desc := "()Ljava/util/List;" } : Jvm.MethodName) prog_15_method_10_code (1 : Nat) (Option.some (Jvm.ClassFile.FieldType.object "java/util/List")), Jvm.Cond.code ({ cls := "com/example/makewhole/makewhole/Interpolation", name := "cells", desc := "()Ljava/util/List;" } : Jvm.MethodName) prog_15_method_11_code (1 : Nat) (Option.some (Jvm.ClassFile.FieldType.object "java/util/List")), Jvm.Cond.code ({ cls := "com/example/makewhole/makewhole/Interpolation", name := "priceWeight", desc := "()Lcom/example/makewhole/makewhole/Fraction;" } : Jvm.MethodName) prog_15_method_12_code (1 : Nat) (Option.some (Jvm.ClassFile.FieldType.object "com/example/makewhole/makewhole/Fraction")), Jvm.Cond.code ({ cls := "com/example/makewhole/makewhole/Interpolation", name := "dateWeight", desc := "()Lcom/example/makewhole/makewhole/Fraction;" } : Jvm.MethodName) prog_15_method_13_code (1 : Nat) (Option.some (Jvm.ClassFile.FieldType.object "com/example/makewhole/makewhole/Fraction")), Jvm.Cond.code ({ cls := "com/example/makewhole/makewhole/Interpolation", name := "value", desc := "()Lcom/example/makewhole/makewhole/Fraction;" } : Jvm.MethodName) prog_15_method_14_code (1 : Nat) (Option.some (Jvm.ClassFile.FieldType.object "com/example/makewhole/makewhole/Fraction")), Jvm.Cond.code ({ cls := "com/example/makewhole/makewhole/Fraction", name := "equals", desc := "(Ljava/lang/Object;)Z" } : Jvm.MethodName) prog_11_method_12_code (2 : Nat) (Option.some Jvm.ClassFile.FieldType.boolean), Jvm.Cond.code ({ cls := "java/math/BigInteger", name := "equals", desc := "(Ljava/lang/Object;)Z" } : Jvm.MethodName) jdk_2097_method_124_code (7 : Nat) (Option.some Jvm.ClassFile.FieldType.boolean)]
set_option maxRecDepth 65536 in
theorem codes_eq : words1.filter isCode = codes1 := rfl
theorem w_codes : ∀ c ∈ words1.filter isCode, c.before args0 about1 = true := by
  rw [codes_eq]
  intro c hc
  simp only [codes1, List.mem_cons, List.not_mem_nil, or_false] at hc
  rcases hc with rfl | rfl | rfl | rfl | rfl | rfl | rfl | rfl | rfl | rfl | rfl | rfl | rfl | rfl
  · exact w_c0
  · exact w_c1
  · exact w_c2
  · exact w_c3
  · exact w_c4
  · exact w_c5
  · exact w_c6
  · exact w_c7
  · exact w_c8
  · exact w_c9
  · exact w_c10
  · exact w_c11
  · exact w_c12
  · exact w_c13
set_option maxRecDepth 65536 in
theorem w_t1 : (words1.take 24).all (fun c => isCode c || c.before args0 about1) = true := by decide +kernel
set_option maxRecDepth 65536 in
theorem w_t2 : ((words1.drop 24).take 24).all (fun c => isCode c || c.before args0 about1) = true := by decide +kernel
set_option maxRecDepth 65536 in
theorem w_t3 : (((words1.drop 24).drop 24).take 24).all (fun c => isCode c || c.before args0 about1) = true := by decide +kernel
set_option maxRecDepth 65536 in
theorem w_t4 : (((words1.drop 24).drop 24).drop 24).all (fun c => isCode c || c.before args0 about1) = true := by decide +kernel
theorem w_tables : (allAtoms (Jvm.Cond.code x code maxLocals ret :: tables_1)).before args0 about1 = true := by
  rw [allAtoms_all]
  show words1.all (fun c => c.before args0 about1) = true
  refine all_split ?_ w_codes
  rw [← List.take_append_drop 24 words1, List.all_append, w_t1, ← List.take_append_drop 24 (words1.drop 24), List.all_append, w_t2, ← List.take_append_drop 24 ((words1.drop 24).drop 24), List.all_append, w_t3, w_t4]
  rfl
set_option maxRecDepth 65536 in
theorem w_case : (Jvm.Cond.and given_1 narrow_1).before args0 about1 = true := by decide +kernel
theorem w_applies : (headSpec (Jvm.Cond.code x code maxLocals ret :: tables_1) room_1).applies x e0.platform about1 = true :=
  (Spec.applies_iff w_frames).mpr ⟨w_running, w_runnable, w_alone, w_named, w_hears, w_ripe, w_room, w_tables⟩
theorem atStart : AtStart classFile x code maxLocals ret World_1 tables_1 room_1 Calls_1 rest_1 Pre_1 launch0 p0 e0 about1 theMethod args0 below0 :=
  ⟨lists_1, trivial, launch0.admits_env _ _ _, launch0.least_env, fairChoices_fair.cas, fairChoices_fair.clock, w_frames, w_args, w_heap, w_applies, trivial, trivial, w_case⟩
end start1
theorem witness_1 : WitnessClaimed_1 := ⟨start1.p0, start1.e0, start1.about1, start1.theMethod, start1.args0, start1.below0, start1.atStart⟩
end Jvm.Pilot.@@N@@
