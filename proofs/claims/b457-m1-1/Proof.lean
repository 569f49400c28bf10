import JvmDerived
import JvmDerived.Pilot.@@N@@Statement
import JvmDerived.Pilot.@@N@@Code
set_option linter.unusedVariables false
set_option linter.unusedSimpArgs false
namespace Jvm.Pilot.@@N@@
open Jvm Jvm.ClassFile Sem Op Lib Jvm.Free Jvm.Stand Jvm.LawKit Jvm.RoadKit Bundle Jvm.Pilot.@@N@@.Jvm.D
theorem own_sz {Z : State} {n0 : Nat} {h : Heap} (O : Old Z n0 h) : n0 ≤ h.size := O.1 ▸ O.2.1
theorem own_sta {args : Array Value} {s : State} {C n d K : String} (h : (Jvm.Cond.exactly (.static C n d) K).value args s none s [] = some true) (hi : (Jvm.Cond.initialized C).before args s = true) (hl : (Jvm.Cond.laysStatic C n d).before args s = true) :
    ∃ a, Sta s s.heap C n d (.ref a) ∧ Exa s s.heap a K ∧ (Term.static C n d).eval args s none [] s = some (.ref a) := by
  obtain ⟨a, ev⟩ := exa_v h
  exact ⟨a, Sta.start ev (Or.inr ⟨hi, hl⟩), Exa.start ev h, ev⟩
theorem own_fint {args : Array Value} {s : State} {t : Term} {a : Addr} {C n d : String} {k : Int32} (ev : t.eval args s none [] s = some (.ref a)) (h : (Jvm.Cond.eq (.field t C n d) (.int k)).value args s none s [] = some true) : Fld s s.heap a C n d (.int k) := by
  obtain ⟨x, y, h1, h2, -, -⟩ := cmp_v (Or.inl h)
  cases h2.symm.trans (Term.int_eval k)
  have h3 := h1
  rw [fld_at ev] at h3
  have : x = .int k := by
    cases x <;> simp_all [Cond.value, Term.eval]
  subst this
  exact Fld.start h3
theorem own_fnull {args : Array Value} {s : State} {t : Term} {a : Addr} {C n d : String} (ev : t.eval args s none [] s = some (.ref a)) (h : (Jvm.Cond.eq (.field t C n d) .null).value args s none s [] = some true) : Fld s s.heap a C n d .null := by
  have h1 := null_v h
  rw [fld_at ev] at h1
  exact Fld.start h1
theorem own_fexa {args : Array Value} {s : State} {t : Term} {a : Addr} {C n d K : String} (ev : t.eval args s none [] s = some (.ref a)) (h : (Jvm.Cond.exactly (.field t C n d) K).value args s none s [] = some true) :
    ∃ b, Fld s s.heap a C n d (.ref b) ∧ Exa s s.heap b K ∧ (Term.field t C n d).eval args s none [] s = some (.ref b) := by
  obtain ⟨b, e2⟩ := exa_v h
  have h1 := e2
  rw [fld_at ev] at h1
  exact ⟨b, Fld.start h1, Exa.start e2 h, e2⟩
theorem own_freq {args : Array Value} {s : State} {t u : Term} {a b : Addr} {C n d : String} (ev : t.eval args s none [] s = some (.ref a)) (eu : u.eval args s none [] s = some (.ref b)) (h : (Jvm.Cond.eq (.field t C n d) u).value args s none s [] = some true) : Fld s s.heap a C n d (.ref b) := by
  obtain ⟨x, y, h1, h2, -, -⟩ := cmp_v (Or.inl h)
  cases h2.symm.trans eu
  have h3 := h1
  rw [fld_at ev] at h3
  have : x = .ref b := by
    cases x <;> simp_all [Cond.value]
  subst this
  exact Fld.start h3
theorem own_nn {v : Value} {a : Addr} (h : v = .ref a) : ¬ v = Value.null := by rw [h]; exact nofun
theorem own_nref {n : String} {v : Value} (h : v.isRef = true) : narrow (.object n) v = v := by rcases ref_cases h with rfl | ⟨_, rfl⟩ <;> rfl
theorem own_fref {n : String} {v : Value} (h : v.isRef = true) : fits (.object n) v = true := by rcases ref_cases h with rfl | ⟨_, rfl⟩ <;> rfl
theorem own_nb {z : Int32} (h : z = 0 ∨ z = 1) : narrow .boolean (.int z) = .int z := by rcases h with rfl | rfl <;> rfl
theorem ow0 {a0 : Array Value} {Z : State} (hw : ∀ d ∈ tables_1, d.before a0 Z = true) : (Jvm.Cond.classLink "com/example/atropos/atropos/analysis/AdmissionAdmitsPinLaw" (7 : Nat) "com/example/atropos/atropos/ops/Excess$Span").before a0 Z = true := hw _ (List.mem_of_getElem? (i := 0) rfl)
theorem ow1 {a0 : Array Value} {Z : State} (hw : ∀ d ∈ tables_1, d.before a0 Z = true) : (Jvm.Cond.instantiable "com/example/atropos/atropos/ops/Excess$Span" (2 : Nat)).before a0 Z = true := hw _ (List.mem_of_getElem? (i := 1) rfl)
theorem ow2 {a0 : Array Value} {Z : State} (hw : ∀ d ∈ tables_1, d.before a0 Z = true) : (Jvm.Cond.initialized "com/example/atropos/atropos/ops/Excess$Span").before a0 Z = true := hw _ (List.mem_of_getElem? (i := 2) rfl)
theorem ow3 {a0 : Array Value} {Z : State} (hw : ∀ d ∈ tables_1, d.before a0 Z = true) : (Jvm.Cond.methodLink "com/example/atropos/atropos/analysis/AdmissionAdmitsPinLaw" (9 : Nat) ({ cls := "com/example/atropos/atropos/ops/Excess$Span", name := "<init>", desc := "(Lcom/example/atropos/atropos/model/Rational;Lcom/example/atropos/atropos/model/Rational;)V" } : Jvm.MethodName)).before a0 Z = true := hw _ (List.mem_of_getElem? (i := 3) rfl)
theorem ow4 {a0 : Array Value} {Z : State} (hw : ∀ d ∈ tables_1, d.before a0 Z = true) : (Jvm.Cond.instanceMethod ({ cls := "com/example/atropos/atropos/ops/Excess$Span", name := "<init>", desc := "(Lcom/example/atropos/atropos/model/Rational;Lcom/example/atropos/atropos/model/Rational;)V" } : Jvm.MethodName)).before a0 Z = true := hw _ (List.mem_of_getElem? (i := 4) rfl)
theorem ow5 {a0 : Array Value} {Z : State} (hw : ∀ d ∈ tables_1, d.before a0 Z = true) : (Jvm.Cond.code ({ cls := "com/example/atropos/atropos/ops/Excess$Span", name := "<init>", desc := "(Lcom/example/atropos/atropos/model/Rational;Lcom/example/atropos/atropos/model/Rational;)V" } : Jvm.MethodName) prog_45_method_1_code (3 : Nat) (Option.none : Option Jvm.ClassFile.FieldType)).before a0 Z = true := hw _ (List.mem_of_getElem? (i := 5) rfl)
theorem ow6 {a0 : Array Value} {Z : State} (hw : ∀ d ∈ tables_1, d.before a0 Z = true) : (Jvm.Cond.methodLink "com/example/atropos/atropos/ops/Excess$Span" (1 : Nat) ({ cls := "java/lang/Record", name := "<init>", desc := "()V" } : Jvm.MethodName)).before a0 Z = true := hw _ (List.mem_of_getElem? (i := 6) rfl)
theorem ow7 {a0 : Array Value} {Z : State} (hw : ∀ d ∈ tables_1, d.before a0 Z = true) : (Jvm.Cond.instanceMethod ({ cls := "java/lang/Record", name := "<init>", desc := "()V" } : Jvm.MethodName)).before a0 Z = true := hw _ (List.mem_of_getElem? (i := 7) rfl)
theorem ow9 {a0 : Array Value} {Z : State} (hw : ∀ d ∈ tables_1, d.before a0 Z = true) : (Jvm.Cond.initialized "java/lang/Record").before a0 Z = true := hw _ (List.mem_of_getElem? (i := 9) rfl)
theorem ow10 {a0 : Array Value} {Z : State} (hw : ∀ d ∈ tables_1, d.before a0 Z = true) : (Jvm.Cond.code ({ cls := "java/lang/Record", name := "<init>", desc := "()V" } : Jvm.MethodName) jdk_30_method_1_code (1 : Nat) (Option.none : Option Jvm.ClassFile.FieldType)).before a0 Z = true := hw _ (List.mem_of_getElem? (i := 10) rfl)
theorem ow11 {a0 : Array Value} {Z : State} (hw : ∀ d ∈ tables_1, d.before a0 Z = true) : (Jvm.Cond.methodLink "java/lang/Record" (1 : Nat) ({ cls := "java/lang/Object", name := "<init>", desc := "()V" } : Jvm.MethodName)).before a0 Z = true := hw _ (List.mem_of_getElem? (i := 11) rfl)
theorem ow12 {a0 : Array Value} {Z : State} (hw : ∀ d ∈ tables_1, d.before a0 Z = true) : (Jvm.Cond.instanceMethod ({ cls := "java/lang/Object", name := "<init>", desc := "()V" } : Jvm.MethodName)).before a0 Z = true := hw _ (List.mem_of_getElem? (i := 12) rfl)
theorem ow13 {a0 : Array Value} {Z : State} (hw : ∀ d ∈ tables_1, d.before a0 Z = true) : (Jvm.Cond.code ({ cls := "java/lang/Object", name := "<init>", desc := "()V" } : Jvm.MethodName) object_method_1_code (1 : Nat) (Option.none : Option Jvm.ClassFile.FieldType)).before a0 Z = true := hw _ (List.mem_of_getElem? (i := 13) rfl)
theorem ow14 {a0 : Array Value} {Z : State} (hw : ∀ d ∈ tables_1, d.before a0 Z = true) : (Jvm.Cond.fieldLink "com/example/atropos/atropos/ops/Excess$Span" (7 : Nat) "com/example/atropos/atropos/ops/Excess$Span" "start" "Lcom/example/atropos/atropos/model/Rational;").before a0 Z = true := hw _ (List.mem_of_getElem? (i := 14) rfl)
theorem ow15 {a0 : Array Value} {Z : State} (hw : ∀ d ∈ tables_1, d.before a0 Z = true) : (Jvm.Cond.laysFinal "com/example/atropos/atropos/ops/Excess$Span" "com/example/atropos/atropos/ops/Excess$Span" "start" "Lcom/example/atropos/atropos/model/Rational;").before a0 Z = true := hw _ (List.mem_of_getElem? (i := 15) rfl)
theorem ow16 {a0 : Array Value} {Z : State} (hw : ∀ d ∈ tables_1, d.before a0 Z = true) : (Jvm.Cond.fieldLink "com/example/atropos/atropos/ops/Excess$Span" (13 : Nat) "com/example/atropos/atropos/ops/Excess$Span" "end" "Lcom/example/atropos/atropos/model/Rational;").before a0 Z = true := hw _ (List.mem_of_getElem? (i := 16) rfl)
theorem ow17 {a0 : Array Value} {Z : State} (hw : ∀ d ∈ tables_1, d.before a0 Z = true) : (Jvm.Cond.laysFinal "com/example/atropos/atropos/ops/Excess$Span" "com/example/atropos/atropos/ops/Excess$Span" "end" "Lcom/example/atropos/atropos/model/Rational;").before a0 Z = true := hw _ (List.mem_of_getElem? (i := 17) rfl)
theorem ow18 {a0 : Array Value} {Z : State} (hw : ∀ d ∈ tables_1, d.before a0 Z = true) : (Jvm.Cond.classLink "com/example/atropos/atropos/analysis/AdmissionAdmitsPinLaw" (12 : Nat) "com/example/atropos/atropos/ops/Excess$Rate").before a0 Z = true := hw _ (List.mem_of_getElem? (i := 18) rfl)
theorem ow19 {a0 : Array Value} {Z : State} (hw : ∀ d ∈ tables_1, d.before a0 Z = true) : (Jvm.Cond.instantiable "com/example/atropos/atropos/ops/Excess$Rate" (4 : Nat)).before a0 Z = true := hw _ (List.mem_of_getElem? (i := 19) rfl)
theorem ow20 {a0 : Array Value} {Z : State} (hw : ∀ d ∈ tables_1, d.before a0 Z = true) : (Jvm.Cond.initialized "com/example/atropos/atropos/ops/Excess$Rate").before a0 Z = true := hw _ (List.mem_of_getElem? (i := 20) rfl)
theorem ow21 {a0 : Array Value} {Z : State} (hw : ∀ d ∈ tables_1, d.before a0 Z = true) : (Jvm.Cond.methodLink "com/example/atropos/atropos/analysis/AdmissionAdmitsPinLaw" (14 : Nat) ({ cls := "com/example/atropos/atropos/ops/Excess$Rate", name := "<init>", desc := "(Lcom/example/atropos/atropos/model/Rational;Lcom/example/atropos/atropos/model/Rational;Lcom/example/atropos/atropos/model/Rational;Lcom/example/atropos/atropos/model/Rational;)V" } : Jvm.MethodName)).before a0 Z = true := hw _ (List.mem_of_getElem? (i := 21) rfl)
theorem ow22 {a0 : Array Value} {Z : State} (hw : ∀ d ∈ tables_1, d.before a0 Z = true) : (Jvm.Cond.instanceMethod ({ cls := "com/example/atropos/atropos/ops/Excess$Rate", name := "<init>", desc := "(Lcom/example/atropos/atropos/model/Rational;Lcom/example/atropos/atropos/model/Rational;Lcom/example/atropos/atropos/model/Rational;Lcom/example/atropos/atropos/model/Rational;)V" } : Jvm.MethodName)).before a0 Z = true := hw _ (List.mem_of_getElem? (i := 22) rfl)
theorem ow23 {a0 : Array Value} {Z : State} (hw : ∀ d ∈ tables_1, d.before a0 Z = true) : (Jvm.Cond.code ({ cls := "com/example/atropos/atropos/ops/Excess$Rate", name := "<init>", desc := "(Lcom/example/atropos/atropos/model/Rational;Lcom/example/atropos/atropos/model/Rational;Lcom/example/atropos/atropos/model/Rational;Lcom/example/atropos/atropos/model/Rational;)V" } : Jvm.MethodName) prog_44_method_1_code (5 : Nat) (Option.none : Option Jvm.ClassFile.FieldType)).before a0 Z = true := hw _ (List.mem_of_getElem? (i := 23) rfl)
theorem ow24 {a0 : Array Value} {Z : State} (hw : ∀ d ∈ tables_1, d.before a0 Z = true) : (Jvm.Cond.methodLink "com/example/atropos/atropos/ops/Excess$Rate" (1 : Nat) ({ cls := "java/lang/Record", name := "<init>", desc := "()V" } : Jvm.MethodName)).before a0 Z = true := hw _ (List.mem_of_getElem? (i := 24) rfl)
theorem ow25 {a0 : Array Value} {Z : State} (hw : ∀ d ∈ tables_1, d.before a0 Z = true) : (Jvm.Cond.fieldLink "com/example/atropos/atropos/ops/Excess$Rate" (7 : Nat) "com/example/atropos/atropos/ops/Excess$Rate" "start" "Lcom/example/atropos/atropos/model/Rational;").before a0 Z = true := hw _ (List.mem_of_getElem? (i := 25) rfl)
theorem ow26 {a0 : Array Value} {Z : State} (hw : ∀ d ∈ tables_1, d.before a0 Z = true) : (Jvm.Cond.laysFinal "com/example/atropos/atropos/ops/Excess$Rate" "com/example/atropos/atropos/ops/Excess$Rate" "start" "Lcom/example/atropos/atropos/model/Rational;").before a0 Z = true := hw _ (List.mem_of_getElem? (i := 26) rfl)
theorem ow27 {a0 : Array Value} {Z : State} (hw : ∀ d ∈ tables_1, d.before a0 Z = true) : (Jvm.Cond.fieldLink "com/example/atropos/atropos/ops/Excess$Rate" (13 : Nat) "com/example/atropos/atropos/ops/Excess$Rate" "end" "Lcom/example/atropos/atropos/model/Rational;").before a0 Z = true := hw _ (List.mem_of_getElem? (i := 27) rfl)
theorem ow28 {a0 : Array Value} {Z : State} (hw : ∀ d ∈ tables_1, d.before a0 Z = true) : (Jvm.Cond.laysFinal "com/example/atropos/atropos/ops/Excess$Rate" "com/example/atropos/atropos/ops/Excess$Rate" "end" "Lcom/example/atropos/atropos/model/Rational;").before a0 Z = true := hw _ (List.mem_of_getElem? (i := 28) rfl)
theorem ow29 {a0 : Array Value} {Z : State} (hw : ∀ d ∈ tables_1, d.before a0 Z = true) : (Jvm.Cond.fieldLink "com/example/atropos/atropos/ops/Excess$Rate" (16 : Nat) "com/example/atropos/atropos/ops/Excess$Rate" "slope" "Lcom/example/atropos/atropos/model/Rational;").before a0 Z = true := hw _ (List.mem_of_getElem? (i := 29) rfl)
theorem ow30 {a0 : Array Value} {Z : State} (hw : ∀ d ∈ tables_1, d.before a0 Z = true) : (Jvm.Cond.laysFinal "com/example/atropos/atropos/ops/Excess$Rate" "com/example/atropos/atropos/ops/Excess$Rate" "slope" "Lcom/example/atropos/atropos/model/Rational;").before a0 Z = true := hw _ (List.mem_of_getElem? (i := 30) rfl)
theorem ow31 {a0 : Array Value} {Z : State} (hw : ∀ d ∈ tables_1, d.before a0 Z = true) : (Jvm.Cond.fieldLink "com/example/atropos/atropos/ops/Excess$Rate" (19 : Nat) "com/example/atropos/atropos/ops/Excess$Rate" "bound" "Lcom/example/atropos/atropos/model/Rational;").before a0 Z = true := hw _ (List.mem_of_getElem? (i := 31) rfl)
theorem ow32 {a0 : Array Value} {Z : State} (hw : ∀ d ∈ tables_1, d.before a0 Z = true) : (Jvm.Cond.laysFinal "com/example/atropos/atropos/ops/Excess$Rate" "com/example/atropos/atropos/ops/Excess$Rate" "bound" "Lcom/example/atropos/atropos/model/Rational;").before a0 Z = true := hw _ (List.mem_of_getElem? (i := 32) rfl)
theorem ow33 {a0 : Array Value} {Z : State} (hw : ∀ d ∈ tables_1, d.before a0 Z = true) : (Jvm.Cond.classLink "com/example/atropos/atropos/analysis/AdmissionAdmitsPinLaw" (17 : Nat) "java/util/ArrayList").before a0 Z = true := hw _ (List.mem_of_getElem? (i := 33) rfl)
theorem ow34 {a0 : Array Value} {Z : State} (hw : ∀ d ∈ tables_1, d.before a0 Z = true) : (Jvm.Cond.instantiable "java/util/ArrayList" (3 : Nat)).before a0 Z = true := hw _ (List.mem_of_getElem? (i := 34) rfl)
theorem ow35 {a0 : Array Value} {Z : State} (hw : ∀ d ∈ tables_1, d.before a0 Z = true) : (Jvm.Cond.initialized "java/util/ArrayList").before a0 Z = true := hw _ (List.mem_of_getElem? (i := 35) rfl)
theorem ow36 {a0 : Array Value} {Z : State} (hw : ∀ d ∈ tables_1, d.before a0 Z = true) : (Jvm.Cond.methodLink "com/example/atropos/atropos/analysis/AdmissionAdmitsPinLaw" (19 : Nat) ({ cls := "java/util/ArrayList", name := "<init>", desc := "()V" } : Jvm.MethodName)).before a0 Z = true := hw _ (List.mem_of_getElem? (i := 36) rfl)
theorem ow37 {a0 : Array Value} {Z : State} (hw : ∀ d ∈ tables_1, d.before a0 Z = true) : (Jvm.Cond.instanceMethod ({ cls := "java/util/ArrayList", name := "<init>", desc := "()V" } : Jvm.MethodName)).before a0 Z = true := hw _ (List.mem_of_getElem? (i := 37) rfl)
theorem ow38 {a0 : Array Value} {Z : State} (hw : ∀ d ∈ tables_1, d.before a0 Z = true) : (Jvm.Cond.code ({ cls := "java/util/ArrayList", name := "<init>", desc := "()V" } : Jvm.MethodName) jdk_38_method_2_code (1 : Nat) (Option.none : Option Jvm.ClassFile.FieldType)).before a0 Z = true := hw _ (List.mem_of_getElem? (i := 38) rfl)
theorem ow39 {a0 : Array Value} {Z : State} (hw : ∀ d ∈ tables_1, d.before a0 Z = true) : (Jvm.Cond.methodLink "java/util/ArrayList" (1 : Nat) ({ cls := "java/util/AbstractList", name := "<init>", desc := "()V" } : Jvm.MethodName)).before a0 Z = true := hw _ (List.mem_of_getElem? (i := 39) rfl)
theorem ow40 {a0 : Array Value} {Z : State} (hw : ∀ d ∈ tables_1, d.before a0 Z = true) : (Jvm.Cond.instanceMethod ({ cls := "java/util/AbstractList", name := "<init>", desc := "()V" } : Jvm.MethodName)).before a0 Z = true := hw _ (List.mem_of_getElem? (i := 40) rfl)
theorem ow43 {a0 : Array Value} {Z : State} (hw : ∀ d ∈ tables_1, d.before a0 Z = true) : (Jvm.Cond.initialized "java/util/AbstractList").before a0 Z = true := hw _ (List.mem_of_getElem? (i := 43) rfl)
theorem ow44 {a0 : Array Value} {Z : State} (hw : ∀ d ∈ tables_1, d.before a0 Z = true) : (Jvm.Cond.code ({ cls := "java/util/AbstractList", name := "<init>", desc := "()V" } : Jvm.MethodName) jdk_39_method_1_code (1 : Nat) (Option.none : Option Jvm.ClassFile.FieldType)).before a0 Z = true := hw _ (List.mem_of_getElem? (i := 44) rfl)
theorem ow45 {a0 : Array Value} {Z : State} (hw : ∀ d ∈ tables_1, d.before a0 Z = true) : (Jvm.Cond.methodLink "java/util/AbstractList" (1 : Nat) ({ cls := "java/util/AbstractCollection", name := "<init>", desc := "()V" } : Jvm.MethodName)).before a0 Z = true := hw _ (List.mem_of_getElem? (i := 45) rfl)
theorem ow46 {a0 : Array Value} {Z : State} (hw : ∀ d ∈ tables_1, d.before a0 Z = true) : (Jvm.Cond.instanceMethod ({ cls := "java/util/AbstractCollection", name := "<init>", desc := "()V" } : Jvm.MethodName)).before a0 Z = true := hw _ (List.mem_of_getElem? (i := 46) rfl)
theorem ow49 {a0 : Array Value} {Z : State} (hw : ∀ d ∈ tables_1, d.before a0 Z = true) : (Jvm.Cond.initialized "java/util/AbstractCollection").before a0 Z = true := hw _ (List.mem_of_getElem? (i := 49) rfl)
theorem ow50 {a0 : Array Value} {Z : State} (hw : ∀ d ∈ tables_1, d.before a0 Z = true) : (Jvm.Cond.code ({ cls := "java/util/AbstractCollection", name := "<init>", desc := "()V" } : Jvm.MethodName) jdk_22_method_1_code (1 : Nat) (Option.none : Option Jvm.ClassFile.FieldType)).before a0 Z = true := hw _ (List.mem_of_getElem? (i := 50) rfl)
theorem ow51 {a0 : Array Value} {Z : State} (hw : ∀ d ∈ tables_1, d.before a0 Z = true) : (Jvm.Cond.methodLink "java/util/AbstractCollection" (1 : Nat) ({ cls := "java/lang/Object", name := "<init>", desc := "()V" } : Jvm.MethodName)).before a0 Z = true := hw _ (List.mem_of_getElem? (i := 51) rfl)
theorem ow52 {a0 : Array Value} {Z : State} (hw : ∀ d ∈ tables_1, d.before a0 Z = true) : (Jvm.Cond.fieldLink "java/util/AbstractList" (7 : Nat) "java/util/AbstractList" "modCount" "I").before a0 Z = true := hw _ (List.mem_of_getElem? (i := 52) rfl)
theorem ow53 {a0 : Array Value} {Z : State} (hw : ∀ d ∈ tables_1, d.before a0 Z = true) : (Jvm.Cond.lays "java/util/ArrayList" "java/util/AbstractList" "modCount" "I").before a0 Z = true := hw _ (List.mem_of_getElem? (i := 53) rfl)
theorem ow54 {a0 : Array Value} {Z : State} (hw : ∀ d ∈ tables_1, d.before a0 Z = true) : (Jvm.Cond.fieldLink "java/util/ArrayList" (39 : Nat) "java/util/ArrayList" "DEFAULTCAPACITY_EMPTY_ELEMENTDATA" "[Ljava/lang/Object;").before a0 Z = true := hw _ (List.mem_of_getElem? (i := 54) rfl)
theorem ow55 {a0 : Array Value} {Z : State} (hw : ∀ d ∈ tables_1, d.before a0 Z = true) : (Jvm.Cond.fieldLink "java/util/ArrayList" (9 : Nat) "java/util/ArrayList" "elementData" "[Ljava/lang/Object;").before a0 Z = true := hw _ (List.mem_of_getElem? (i := 55) rfl)
theorem ow56 {a0 : Array Value} {Z : State} (hw : ∀ d ∈ tables_1, d.before a0 Z = true) : (Jvm.Cond.lays "java/util/ArrayList" "java/util/ArrayList" "elementData" "[Ljava/lang/Object;").before a0 Z = true := hw _ (List.mem_of_getElem? (i := 56) rfl)
theorem ow57 {a0 : Array Value} {Z : State} (hw : ∀ d ∈ tables_1, d.before a0 Z = true) : (Jvm.Cond.methodLink "com/example/atropos/atropos/analysis/AdmissionAdmitsPinLaw" (20 : Nat) ({ cls := "java/util/ArrayList", name := "add", desc := "(Ljava/lang/Object;)Z" } : Jvm.MethodName)).before a0 Z = true := hw _ (List.mem_of_getElem? (i := 57) rfl)
theorem ow58 {a0 : Array Value} {Z : State} (hw : ∀ d ∈ tables_1, d.before a0 Z = true) : (Jvm.Cond.declares ({ cls := "java/util/ArrayList", name := "add", desc := "(Ljava/lang/Object;)Z" } : Jvm.MethodName)).before a0 Z = true := hw _ (List.mem_of_getElem? (i := 58) rfl)
theorem ow59 {a0 : Array Value} {Z : State} (hw : ∀ d ∈ tables_1, d.before a0 Z = true) : (Jvm.Cond.instanceMethod ({ cls := "java/util/ArrayList", name := "add", desc := "(Ljava/lang/Object;)Z" } : Jvm.MethodName)).before a0 Z = true := hw _ (List.mem_of_getElem? (i := 59) rfl)
theorem ow60 {a0 : Array Value} {Z : State} (hw : ∀ d ∈ tables_1, d.before a0 Z = true) : (Jvm.Cond.selects "java/util/ArrayList" ({ cls := "java/util/ArrayList", name := "add", desc := "(Ljava/lang/Object;)Z" } : Jvm.MethodName) ({ cls := "java/util/ArrayList", name := "add", desc := "(Ljava/lang/Object;)Z" } : Jvm.MethodName)).before a0 Z = true := hw _ (List.mem_of_getElem? (i := 60) rfl)
theorem ow61 {a0 : Array Value} {Z : State} (hw : ∀ d ∈ tables_1, d.before a0 Z = true) : (Jvm.Cond.code ({ cls := "java/util/ArrayList", name := "add", desc := "(Ljava/lang/Object;)Z" } : Jvm.MethodName) jdk_38_method_25_code (2 : Nat) (Option.some Jvm.ClassFile.FieldType.boolean)).before a0 Z = true := hw _ (List.mem_of_getElem? (i := 61) rfl)
theorem ow62 {a0 : Array Value} {Z : State} (hw : ∀ d ∈ tables_1, d.before a0 Z = true) : (Jvm.Cond.fieldLink "java/util/ArrayList" (63 : Nat) "java/util/ArrayList" "modCount" "I").before a0 Z = true := hw _ (List.mem_of_getElem? (i := 62) rfl)
theorem ow63 {a0 : Array Value} {Z : State} (hw : ∀ d ∈ tables_1, d.before a0 Z = true) : (Jvm.Cond.sameField "java/util/ArrayList" "java/util/AbstractList" "modCount" "I").before a0 Z = true := hw _ (List.mem_of_getElem? (i := 63) rfl)
theorem ow64 {a0 : Array Value} {Z : State} (hw : ∀ d ∈ tables_1, d.before a0 Z = true) : (Jvm.Cond.fieldLink "java/util/ArrayList" (48 : Nat) "java/util/ArrayList" "size" "I").before a0 Z = true := hw _ (List.mem_of_getElem? (i := 64) rfl)
theorem ow65 {a0 : Array Value} {Z : State} (hw : ∀ d ∈ tables_1, d.before a0 Z = true) : (Jvm.Cond.lays "java/util/ArrayList" "java/util/ArrayList" "size" "I").before a0 Z = true := hw _ (List.mem_of_getElem? (i := 65) rfl)
theorem ow66 {a0 : Array Value} {Z : State} (hw : ∀ d ∈ tables_1, d.before a0 Z = true) : (Jvm.Cond.methodLink "java/util/ArrayList" (131 : Nat) ({ cls := "java/util/ArrayList", name := "add", desc := "(Ljava/lang/Object;[Ljava/lang/Object;I)V" } : Jvm.MethodName)).before a0 Z = true := hw _ (List.mem_of_getElem? (i := 66) rfl)
theorem ow67 {a0 : Array Value} {Z : State} (hw : ∀ d ∈ tables_1, d.before a0 Z = true) : (Jvm.Cond.instanceMethod ({ cls := "java/util/ArrayList", name := "add", desc := "(Ljava/lang/Object;[Ljava/lang/Object;I)V" } : Jvm.MethodName)).before a0 Z = true := hw _ (List.mem_of_getElem? (i := 67) rfl)
theorem ow68 {a0 : Array Value} {Z : State} (hw : ∀ d ∈ tables_1, d.before a0 Z = true) : (Jvm.Cond.privateMethod ({ cls := "java/util/ArrayList", name := "add", desc := "(Ljava/lang/Object;[Ljava/lang/Object;I)V" } : Jvm.MethodName)).before a0 Z = true := hw _ (List.mem_of_getElem? (i := 68) rfl)
theorem ow69 {a0 : Array Value} {Z : State} (hw : ∀ d ∈ tables_1, d.before a0 Z = true) : (Jvm.Cond.selects "java/util/ArrayList" ({ cls := "java/util/ArrayList", name := "add", desc := "(Ljava/lang/Object;[Ljava/lang/Object;I)V" } : Jvm.MethodName) ({ cls := "java/util/ArrayList", name := "add", desc := "(Ljava/lang/Object;[Ljava/lang/Object;I)V" } : Jvm.MethodName)).before a0 Z = true := hw _ (List.mem_of_getElem? (i := 69) rfl)
theorem ow70 {a0 : Array Value} {Z : State} (hw : ∀ d ∈ tables_1, d.before a0 Z = true) : (Jvm.Cond.code ({ cls := "java/util/ArrayList", name := "add", desc := "(Ljava/lang/Object;[Ljava/lang/Object;I)V" } : Jvm.MethodName) jdk_38_method_24_code (4 : Nat) (Option.none : Option Jvm.ClassFile.FieldType)).before a0 Z = true := hw _ (List.mem_of_getElem? (i := 70) rfl)
theorem ow71 {a0 : Array Value} {Z : State} (hw : ∀ d ∈ tables_1, d.before a0 Z = true) : (Jvm.Cond.methodLink "java/util/ArrayList" (129 : Nat) ({ cls := "java/util/ArrayList", name := "grow", desc := "()[Ljava/lang/Object;" } : Jvm.MethodName)).before a0 Z = true := hw _ (List.mem_of_getElem? (i := 71) rfl)
theorem ow72 {a0 : Array Value} {Z : State} (hw : ∀ d ∈ tables_1, d.before a0 Z = true) : (Jvm.Cond.instanceMethod ({ cls := "java/util/ArrayList", name := "grow", desc := "()[Ljava/lang/Object;" } : Jvm.MethodName)).before a0 Z = true := hw _ (List.mem_of_getElem? (i := 72) rfl)
theorem ow73 {a0 : Array Value} {Z : State} (hw : ∀ d ∈ tables_1, d.before a0 Z = true) : (Jvm.Cond.privateMethod ({ cls := "java/util/ArrayList", name := "grow", desc := "()[Ljava/lang/Object;" } : Jvm.MethodName)).before a0 Z = true := hw _ (List.mem_of_getElem? (i := 73) rfl)
theorem ow74 {a0 : Array Value} {Z : State} (hw : ∀ d ∈ tables_1, d.before a0 Z = true) : (Jvm.Cond.selects "java/util/ArrayList" ({ cls := "java/util/ArrayList", name := "grow", desc := "()[Ljava/lang/Object;" } : Jvm.MethodName) ({ cls := "java/util/ArrayList", name := "grow", desc := "()[Ljava/lang/Object;" } : Jvm.MethodName)).before a0 Z = true := hw _ (List.mem_of_getElem? (i := 74) rfl)
theorem ow75 {a0 : Array Value} {Z : State} (hw : ∀ d ∈ tables_1, d.before a0 Z = true) : (Jvm.Cond.code ({ cls := "java/util/ArrayList", name := "grow", desc := "()[Ljava/lang/Object;" } : Jvm.MethodName) jdk_38_method_7_code (1 : Nat) (Option.some (Jvm.ClassFile.FieldType.array (Jvm.ClassFile.FieldType.object "java/lang/Object")))).before a0 Z = true := hw _ (List.mem_of_getElem? (i := 75) rfl)
theorem ow76 {a0 : Array Value} {Z : State} (hw : ∀ d ∈ tables_1, d.before a0 Z = true) : (Jvm.Cond.methodLink "java/util/ArrayList" (69 : Nat) ({ cls := "java/util/ArrayList", name := "grow", desc := "(I)[Ljava/lang/Object;" } : Jvm.MethodName)).before a0 Z = true := hw _ (List.mem_of_getElem? (i := 76) rfl)
theorem ow77 {a0 : Array Value} {Z : State} (hw : ∀ d ∈ tables_1, d.before a0 Z = true) : (Jvm.Cond.instanceMethod ({ cls := "java/util/ArrayList", name := "grow", desc := "(I)[Ljava/lang/Object;" } : Jvm.MethodName)).before a0 Z = true := hw _ (List.mem_of_getElem? (i := 77) rfl)
theorem ow78 {a0 : Array Value} {Z : State} (hw : ∀ d ∈ tables_1, d.before a0 Z = true) : (Jvm.Cond.privateMethod ({ cls := "java/util/ArrayList", name := "grow", desc := "(I)[Ljava/lang/Object;" } : Jvm.MethodName)).before a0 Z = true := hw _ (List.mem_of_getElem? (i := 78) rfl)
theorem ow79 {a0 : Array Value} {Z : State} (hw : ∀ d ∈ tables_1, d.before a0 Z = true) : (Jvm.Cond.selects "java/util/ArrayList" ({ cls := "java/util/ArrayList", name := "grow", desc := "(I)[Ljava/lang/Object;" } : Jvm.MethodName) ({ cls := "java/util/ArrayList", name := "grow", desc := "(I)[Ljava/lang/Object;" } : Jvm.MethodName)).before a0 Z = true := hw _ (List.mem_of_getElem? (i := 79) rfl)
theorem ow80 {a0 : Array Value} {Z : State} (hw : ∀ d ∈ tables_1, d.before a0 Z = true) : (Jvm.Cond.code ({ cls := "java/util/ArrayList", name := "grow", desc := "(I)[Ljava/lang/Object;" } : Jvm.MethodName) jdk_38_method_6_code (4 : Nat) (Option.some (Jvm.ClassFile.FieldType.array (Jvm.ClassFile.FieldType.object "java/lang/Object")))).before a0 Z = true := hw _ (List.mem_of_getElem? (i := 80) rfl)
theorem ow81 {a0 : Array Value} {Z : State} (hw : ∀ d ∈ tables_1, d.before a0 Z = true) : (Jvm.Cond.methodLink "java/util/ArrayList" (79 : Nat) ({ cls := "java/lang/Math", name := "max", desc := "(II)I" } : Jvm.MethodName)).before a0 Z = true := hw _ (List.mem_of_getElem? (i := 81) rfl)
theorem ow82 {a0 : Array Value} {Z : State} (hw : ∀ d ∈ tables_1, d.before a0 Z = true) : (Jvm.Cond.static ({ cls := "java/lang/Math", name := "max", desc := "(II)I" } : Jvm.MethodName)).before a0 Z = true := hw _ (List.mem_of_getElem? (i := 82) rfl)
theorem ow83 {a0 : Array Value} {Z : State} (hw : ∀ d ∈ tables_1, d.before a0 Z = true) : (Jvm.Cond.initialized "java/lang/Math").before a0 Z = true := hw _ (List.mem_of_getElem? (i := 83) rfl)
theorem ow84 {a0 : Array Value} {Z : State} (hw : ∀ d ∈ tables_1, d.before a0 Z = true) : (Jvm.Cond.code ({ cls := "java/lang/Math", name := "max", desc := "(II)I" } : Jvm.MethodName) jdk_29_method_65_code (2 : Nat) (Option.some Jvm.ClassFile.FieldType.int)).before a0 Z = true := hw _ (List.mem_of_getElem? (i := 84) rfl)
theorem ow85 {a0 : Array Value} {Z : State} (hw : ∀ d ∈ tables_1, d.before a0 Z = true) : (Jvm.Cond.classLink "java/util/ArrayList" (7 : Nat) "java/lang/Object").before a0 Z = true := hw _ (List.mem_of_getElem? (i := 85) rfl)
theorem ow86 {a0 : Array Value} {Z : State} (hw : ∀ d ∈ tables_1, d.before a0 Z = true) : (Jvm.Cond.arrayOver (Jvm.ClassFile.FieldType.object "java/lang/Object")).before a0 Z = true := hw _ (List.mem_of_getElem? (i := 86) rfl)
theorem ow87 {a0 : Array Value} {Z : State} (hw : ∀ d ∈ tables_1, d.before a0 Z = true) : (Jvm.Cond.castable "com/example/atropos/atropos/ops/Excess$Rate" "java/lang/Object").before a0 Z = true := hw _ (List.mem_of_getElem? (i := 87) rfl)
theorem ow88 {a0 : Array Value} {Z : State} (hw : ∀ d ∈ tables_1, d.before a0 Z = true) : (Jvm.Cond.classLink "com/example/atropos/atropos/analysis/AdmissionAdmitsPinLaw" (24 : Nat) "com/example/atropos/atropos/analysis/Admission").before a0 Z = true := hw _ (List.mem_of_getElem? (i := 88) rfl)
theorem ow89 {a0 : Array Value} {Z : State} (hw : ∀ d ∈ tables_1, d.before a0 Z = true) : (Jvm.Cond.instantiable "com/example/atropos/atropos/analysis/Admission" (2 : Nat)).before a0 Z = true := hw _ (List.mem_of_getElem? (i := 89) rfl)
theorem ow90 {a0 : Array Value} {Z : State} (hw : ∀ d ∈ tables_1, d.before a0 Z = true) : (Jvm.Cond.initialized "com/example/atropos/atropos/analysis/Admission").before a0 Z = true := hw _ (List.mem_of_getElem? (i := 90) rfl)
theorem ow91 {a0 : Array Value} {Z : State} (hw : ∀ d ∈ tables_1, d.before a0 Z = true) : (Jvm.Cond.methodLink "com/example/atropos/atropos/analysis/AdmissionAdmitsPinLaw" (26 : Nat) ({ cls := "com/example/atropos/atropos/analysis/Admission", name := "<init>", desc := "(Ljava/util/List;Ljava/util/List;)V" } : Jvm.MethodName)).before a0 Z = true := hw _ (List.mem_of_getElem? (i := 91) rfl)
theorem ow92 {a0 : Array Value} {Z : State} (hw : ∀ d ∈ tables_1, d.before a0 Z = true) : (Jvm.Cond.instanceMethod ({ cls := "com/example/atropos/atropos/analysis/Admission", name := "<init>", desc := "(Ljava/util/List;Ljava/util/List;)V" } : Jvm.MethodName)).before a0 Z = true := hw _ (List.mem_of_getElem? (i := 92) rfl)
theorem ow93 {a0 : Array Value} {Z : State} (hw : ∀ d ∈ tables_1, d.before a0 Z = true) : (Jvm.Cond.code ({ cls := "com/example/atropos/atropos/analysis/Admission", name := "<init>", desc := "(Ljava/util/List;Ljava/util/List;)V" } : Jvm.MethodName) prog_1_method_1_code (3 : Nat) (Option.none : Option Jvm.ClassFile.FieldType)).before a0 Z = true := hw _ (List.mem_of_getElem? (i := 93) rfl)
theorem ow94 {a0 : Array Value} {Z : State} (hw : ∀ d ∈ tables_1, d.before a0 Z = true) : (Jvm.Cond.methodLink "com/example/atropos/atropos/analysis/Admission" (1 : Nat) ({ cls := "java/lang/Record", name := "<init>", desc := "()V" } : Jvm.MethodName)).before a0 Z = true := hw _ (List.mem_of_getElem? (i := 94) rfl)
theorem ow95 {a0 : Array Value} {Z : State} (hw : ∀ d ∈ tables_1, d.before a0 Z = true) : (Jvm.Cond.methodLink "com/example/atropos/atropos/analysis/Admission" (7 : Nat) ({ cls := "java/util/List", name := "copyOf", desc := "(Ljava/util/Collection;)Ljava/util/List;" } : Jvm.MethodName)).before a0 Z = true := hw _ (List.mem_of_getElem? (i := 95) rfl)
theorem ow96 {a0 : Array Value} {Z : State} (hw : ∀ d ∈ tables_1, d.before a0 Z = true) : (Jvm.Cond.static ({ cls := "java/util/List", name := "copyOf", desc := "(Ljava/util/Collection;)Ljava/util/List;" } : Jvm.MethodName)).before a0 Z = true := hw _ (List.mem_of_getElem? (i := 96) rfl)
theorem ow97 {a0 : Array Value} {Z : State} (hw : ∀ d ∈ tables_1, d.before a0 Z = true) : (Jvm.Cond.initialized "java/util/List").before a0 Z = true := hw _ (List.mem_of_getElem? (i := 97) rfl)
theorem ow98 {a0 : Array Value} {Z : State} (hw : ∀ d ∈ tables_1, d.before a0 Z = true) : (Jvm.Cond.code ({ cls := "java/util/List", name := "copyOf", desc := "(Ljava/util/Collection;)Ljava/util/List;" } : Jvm.MethodName) jdk_40_method_48_code (1 : Nat) (Option.some (Jvm.ClassFile.FieldType.object "java/util/List"))).before a0 Z = true := hw _ (List.mem_of_getElem? (i := 98) rfl)
theorem ow99 {a0 : Array Value} {Z : State} (hw : ∀ d ∈ tables_1, d.before a0 Z = true) : (Jvm.Cond.methodLink "java/util/List" (112 : Nat) ({ cls := "java/util/ImmutableCollections", name := "listCopy", desc := "(Ljava/util/Collection;)Ljava/util/List;" } : Jvm.MethodName)).before a0 Z = true := hw _ (List.mem_of_getElem? (i := 99) rfl)
theorem ow100 {a0 : Array Value} {Z : State} (hw : ∀ d ∈ tables_1, d.before a0 Z = true) : (Jvm.Cond.static ({ cls := "java/util/ImmutableCollections", name := "listCopy", desc := "(Ljava/util/Collection;)Ljava/util/List;" } : Jvm.MethodName)).before a0 Z = true := hw _ (List.mem_of_getElem? (i := 100) rfl)
theorem ow101 {a0 : Array Value} {Z : State} (hw : ∀ d ∈ tables_1, d.before a0 Z = true) : (Jvm.Cond.initialized "java/util/ImmutableCollections").before a0 Z = true := hw _ (List.mem_of_getElem? (i := 101) rfl)
theorem ow102 {a0 : Array Value} {Z : State} (hw : ∀ d ∈ tables_1, d.before a0 Z = true) : (Jvm.Cond.code ({ cls := "java/util/ImmutableCollections", name := "listCopy", desc := "(Ljava/util/Collection;)Ljava/util/List;" } : Jvm.MethodName) jdk_56_method_3_code (2 : Nat) (Option.some (Jvm.ClassFile.FieldType.object "java/util/List"))).before a0 Z = true := hw _ (List.mem_of_getElem? (i := 102) rfl)
theorem ow103 {a0 : Array Value} {Z : State} (hw : ∀ d ∈ tables_1, d.before a0 Z = true) : (Jvm.Cond.classLink "java/util/ImmutableCollections" (10 : Nat) "java/util/ImmutableCollections$List12").before a0 Z = true := hw _ (List.mem_of_getElem? (i := 103) rfl)
theorem ow104 {a0 : Array Value} {Z : State} (hw : ∀ d ∈ tables_1, d.before a0 Z = true) : (Jvm.Cond.superclass "java/util/ArrayList" "java/util/AbstractList").before a0 Z = true := hw _ (List.mem_of_getElem? (i := 104) rfl)
theorem ow105 {a0 : Array Value} {Z : State} (hw : ∀ d ∈ tables_1, d.before a0 Z = true) : (Jvm.Cond.superclass "java/util/AbstractList" "java/util/AbstractCollection").before a0 Z = true := hw _ (List.mem_of_getElem? (i := 105) rfl)
theorem ow106 {a0 : Array Value} {Z : State} (hw : ∀ d ∈ tables_1, d.before a0 Z = true) : (Jvm.Cond.superclass "java/util/AbstractCollection" "java/lang/Object").before a0 Z = true := hw _ (List.mem_of_getElem? (i := 106) rfl)
theorem ow107 {a0 : Array Value} {Z : State} (hw : ∀ d ∈ tables_1, d.before a0 Z = true) : (Jvm.Cond.noSuperclass "java/lang/Object").before a0 Z = true := hw _ (List.mem_of_getElem? (i := 107) rfl)
theorem ow108 {a0 : Array Value} {Z : State} (hw : ∀ d ∈ tables_1, d.before a0 Z = true) : (Jvm.Cond.classLink "java/util/ImmutableCollections" (12 : Nat) "java/util/ImmutableCollections$ListN").before a0 Z = true := hw _ (List.mem_of_getElem? (i := 108) rfl)
theorem ow109 {a0 : Array Value} {Z : State} (hw : ∀ d ∈ tables_1, d.before a0 Z = true) : (Jvm.Cond.methodLink "java/util/ImmutableCollections" (20 : Nat) ({ cls := "java/util/Collection", name := "isEmpty", desc := "()Z" } : Jvm.MethodName)).before a0 Z = true := hw _ (List.mem_of_getElem? (i := 109) rfl)
theorem ow110 {a0 : Array Value} {Z : State} (hw : ∀ d ∈ tables_1, d.before a0 Z = true) : (Jvm.Cond.declares ({ cls := "java/util/Collection", name := "isEmpty", desc := "()Z" } : Jvm.MethodName)).before a0 Z = true := hw _ (List.mem_of_getElem? (i := 110) rfl)
theorem ow111 {a0 : Array Value} {Z : State} (hw : ∀ d ∈ tables_1, d.before a0 Z = true) : (Jvm.Cond.interfaceMethod "java/util/Collection" "java/util/Collection" "isEmpty" "()Z").before a0 Z = true := hw _ (List.mem_of_getElem? (i := 111) rfl)
theorem ow112 {a0 : Array Value} {Z : State} (hw : ∀ d ∈ tables_1, d.before a0 Z = true) : (Jvm.Cond.selects "java/util/ArrayList" ({ cls := "java/util/Collection", name := "isEmpty", desc := "()Z" } : Jvm.MethodName) ({ cls := "java/util/ArrayList", name := "isEmpty", desc := "()Z" } : Jvm.MethodName)).before a0 Z = true := hw _ (List.mem_of_getElem? (i := 112) rfl)
theorem ow113 {a0 : Array Value} {Z : State} (hw : ∀ d ∈ tables_1, d.before a0 Z = true) : (Jvm.Cond.instanceMethod ({ cls := "java/util/ArrayList", name := "isEmpty", desc := "()Z" } : Jvm.MethodName)).before a0 Z = true := hw _ (List.mem_of_getElem? (i := 113) rfl)
theorem ow114 {a0 : Array Value} {Z : State} (hw : ∀ d ∈ tables_1, d.before a0 Z = true) : (Jvm.Cond.publicMethod ({ cls := "java/util/ArrayList", name := "isEmpty", desc := "()Z" } : Jvm.MethodName)).before a0 Z = true := hw _ (List.mem_of_getElem? (i := 114) rfl)
theorem ow115 {a0 : Array Value} {Z : State} (hw : ∀ d ∈ tables_1, d.before a0 Z = true) : (Jvm.Cond.unhidden "java/util/ArrayList" "isEmpty" "()Z").before a0 Z = true := hw _ (List.mem_of_getElem? (i := 115) rfl)
theorem ow116 {a0 : Array Value} {Z : State} (hw : ∀ d ∈ tables_1, d.before a0 Z = true) : (Jvm.Cond.castable "java/util/ArrayList" "java/util/Collection").before a0 Z = true := hw _ (List.mem_of_getElem? (i := 116) rfl)
theorem ow117 {a0 : Array Value} {Z : State} (hw : ∀ d ∈ tables_1, d.before a0 Z = true) : (Jvm.Cond.code ({ cls := "java/util/ArrayList", name := "isEmpty", desc := "()Z" } : Jvm.MethodName) jdk_38_method_9_code (1 : Nat) (Option.some Jvm.ClassFile.FieldType.boolean)).before a0 Z = true := hw _ (List.mem_of_getElem? (i := 117) rfl)
theorem ow118 {a0 : Array Value} {Z : State} (hw : ∀ d ∈ tables_1, d.before a0 Z = true) : (Jvm.Cond.methodLink "java/util/ImmutableCollections" (26 : Nat) ({ cls := "java/util/List", name := "of", desc := "()Ljava/util/List;" } : Jvm.MethodName)).before a0 Z = true := hw _ (List.mem_of_getElem? (i := 118) rfl)
theorem ow119 {a0 : Array Value} {Z : State} (hw : ∀ d ∈ tables_1, d.before a0 Z = true) : (Jvm.Cond.static ({ cls := "java/util/List", name := "of", desc := "()Ljava/util/List;" } : Jvm.MethodName)).before a0 Z = true := hw _ (List.mem_of_getElem? (i := 119) rfl)
theorem ow120 {a0 : Array Value} {Z : State} (hw : ∀ d ∈ tables_1, d.before a0 Z = true) : (Jvm.Cond.code ({ cls := "java/util/List", name := "of", desc := "()Ljava/util/List;" } : Jvm.MethodName) jdk_40_method_36_code (0 : Nat) (Option.some (Jvm.ClassFile.FieldType.object "java/util/List"))).before a0 Z = true := hw _ (List.mem_of_getElem? (i := 120) rfl)
theorem ow121 {a0 : Array Value} {Z : State} (hw : ∀ d ∈ tables_1, d.before a0 Z = true) : (Jvm.Cond.fieldLink "java/util/List" (90 : Nat) "java/util/ImmutableCollections" "EMPTY_LIST" "Ljava/util/ImmutableCollections$ListN;").before a0 Z = true := hw _ (List.mem_of_getElem? (i := 121) rfl)
theorem ow122 {a0 : Array Value} {Z : State} (hw : ∀ d ∈ tables_1, d.before a0 Z = true) : (Jvm.Cond.methodLink "java/util/ImmutableCollections" (30 : Nat) ({ cls := "java/util/Collection", name := "toArray", desc := "()[Ljava/lang/Object;" } : Jvm.MethodName)).before a0 Z = true := hw _ (List.mem_of_getElem? (i := 122) rfl)
theorem ow123 {a0 : Array Value} {Z : State} (hw : ∀ d ∈ tables_1, d.before a0 Z = true) : (Jvm.Cond.declares ({ cls := "java/util/Collection", name := "toArray", desc := "()[Ljava/lang/Object;" } : Jvm.MethodName)).before a0 Z = true := hw _ (List.mem_of_getElem? (i := 123) rfl)
theorem ow124 {a0 : Array Value} {Z : State} (hw : ∀ d ∈ tables_1, d.before a0 Z = true) : (Jvm.Cond.interfaceMethod "java/util/Collection" "java/util/Collection" "toArray" "()[Ljava/lang/Object;").before a0 Z = true := hw _ (List.mem_of_getElem? (i := 124) rfl)
theorem ow125 {a0 : Array Value} {Z : State} (hw : ∀ d ∈ tables_1, d.before a0 Z = true) : (Jvm.Cond.selects "java/util/ArrayList" ({ cls := "java/util/Collection", name := "toArray", desc := "()[Ljava/lang/Object;" } : Jvm.MethodName) ({ cls := "java/util/ArrayList", name := "toArray", desc := "()[Ljava/lang/Object;" } : Jvm.MethodName)).before a0 Z = true := hw _ (List.mem_of_getElem? (i := 125) rfl)
theorem ow126 {a0 : Array Value} {Z : State} (hw : ∀ d ∈ tables_1, d.before a0 Z = true) : (Jvm.Cond.instanceMethod ({ cls := "java/util/ArrayList", name := "toArray", desc := "()[Ljava/lang/Object;" } : Jvm.MethodName)).before a0 Z = true := hw _ (List.mem_of_getElem? (i := 126) rfl)
theorem ow127 {a0 : Array Value} {Z : State} (hw : ∀ d ∈ tables_1, d.before a0 Z = true) : (Jvm.Cond.publicMethod ({ cls := "java/util/ArrayList", name := "toArray", desc := "()[Ljava/lang/Object;" } : Jvm.MethodName)).before a0 Z = true := hw _ (List.mem_of_getElem? (i := 127) rfl)
theorem ow128 {a0 : Array Value} {Z : State} (hw : ∀ d ∈ tables_1, d.before a0 Z = true) : (Jvm.Cond.unhidden "java/util/ArrayList" "toArray" "()[Ljava/lang/Object;").before a0 Z = true := hw _ (List.mem_of_getElem? (i := 128) rfl)
theorem ow129 {a0 : Array Value} {Z : State} (hw : ∀ d ∈ tables_1, d.before a0 Z = true) : (Jvm.Cond.code ({ cls := "java/util/ArrayList", name := "toArray", desc := "()[Ljava/lang/Object;" } : Jvm.MethodName) jdk_38_method_16_code (1 : Nat) (Option.some (Jvm.ClassFile.FieldType.array (Jvm.ClassFile.FieldType.object "java/lang/Object")))).before a0 Z = true := hw _ (List.mem_of_getElem? (i := 129) rfl)
theorem ow130 {a0 : Array Value} {Z : State} (hw : ∀ d ∈ tables_1, d.before a0 Z = true) : (Jvm.Cond.methodLink "java/util/ArrayList" (66 : Nat) ({ cls := "java/util/Arrays", name := "copyOf", desc := "([Ljava/lang/Object;I)[Ljava/lang/Object;" } : Jvm.MethodName)).before a0 Z = true := hw _ (List.mem_of_getElem? (i := 130) rfl)
theorem ow131 {a0 : Array Value} {Z : State} (hw : ∀ d ∈ tables_1, d.before a0 Z = true) : (Jvm.Cond.static ({ cls := "java/util/Arrays", name := "copyOf", desc := "([Ljava/lang/Object;I)[Ljava/lang/Object;" } : Jvm.MethodName)).before a0 Z = true := hw _ (List.mem_of_getElem? (i := 131) rfl)
theorem ow132 {a0 : Array Value} {Z : State} (hw : ∀ d ∈ tables_1, d.before a0 Z = true) : (Jvm.Cond.initialized "java/util/Arrays").before a0 Z = true := hw _ (List.mem_of_getElem? (i := 132) rfl)
theorem ow133 {a0 : Array Value} {Z : State} (hw : ∀ d ∈ tables_1, d.before a0 Z = true) : (Jvm.Cond.code ({ cls := "java/util/Arrays", name := "copyOf", desc := "([Ljava/lang/Object;I)[Ljava/lang/Object;" } : Jvm.MethodName) jdk_65_method_119_code (2 : Nat) (Option.some (Jvm.ClassFile.FieldType.array (Jvm.ClassFile.FieldType.object "java/lang/Object")))).before a0 Z = true := hw _ (List.mem_of_getElem? (i := 133) rfl)
theorem ow134 {a0 : Array Value} {Z : State} (hw : ∀ d ∈ tables_1, d.before a0 Z = true) : (Jvm.Cond.methodLink "java/util/Arrays" (86 : Nat) ({ cls := "java/lang/Object", name := "getClass", desc := "()Ljava/lang/Class;" } : Jvm.MethodName)).before a0 Z = true := hw _ (List.mem_of_getElem? (i := 134) rfl)
theorem ow135 {a0 : Array Value} {Z : State} (hw : ∀ d ∈ tables_1, d.before a0 Z = true) : (Jvm.Cond.declares ({ cls := "java/lang/Object", name := "getClass", desc := "()Ljava/lang/Class;" } : Jvm.MethodName)).before a0 Z = true := hw _ (List.mem_of_getElem? (i := 135) rfl)
theorem ow136 {a0 : Array Value} {Z : State} (hw : ∀ d ∈ tables_1, d.before a0 Z = true) : (Jvm.Cond.instanceMethod ({ cls := "java/lang/Object", name := "getClass", desc := "()Ljava/lang/Class;" } : Jvm.MethodName)).before a0 Z = true := hw _ (List.mem_of_getElem? (i := 136) rfl)
theorem ow137 {a0 : Array Value} {Z : State} (hw : ∀ d ∈ tables_1, d.before a0 Z = true) : (Jvm.Cond.selects "[Ljava/lang/Object;" ({ cls := "java/lang/Object", name := "getClass", desc := "()Ljava/lang/Class;" } : Jvm.MethodName) ({ cls := "java/lang/Object", name := "getClass", desc := "()Ljava/lang/Class;" } : Jvm.MethodName)).before a0 Z = true := hw _ (List.mem_of_getElem? (i := 137) rfl)
theorem ow138 {a0 : Array Value} {Z : State} (hw : ∀ d ∈ tables_1, d.before a0 Z = true) : (Jvm.Cond.native ({ cls := "java/lang/Object", name := "getClass", desc := "()Ljava/lang/Class;" } : Jvm.MethodName)).before a0 Z = true := hw _ (List.mem_of_getElem? (i := 138) rfl)
theorem ow140 {a0 : Array Value} {Z : State} (hw : ∀ d ∈ tables_1, d.before a0 Z = true) : (Jvm.Cond.methodLink "java/util/Arrays" (300 : Nat) ({ cls := "java/util/Arrays", name := "copyOf", desc := "([Ljava/lang/Object;ILjava/lang/Class;)[Ljava/lang/Object;" } : Jvm.MethodName)).before a0 Z = true := hw _ (List.mem_of_getElem? (i := 140) rfl)
theorem ow141 {a0 : Array Value} {Z : State} (hw : ∀ d ∈ tables_1, d.before a0 Z = true) : (Jvm.Cond.static ({ cls := "java/util/Arrays", name := "copyOf", desc := "([Ljava/lang/Object;ILjava/lang/Class;)[Ljava/lang/Object;" } : Jvm.MethodName)).before a0 Z = true := hw _ (List.mem_of_getElem? (i := 141) rfl)
theorem ow142 {a0 : Array Value} {Z : State} (hw : ∀ d ∈ tables_1, d.before a0 Z = true) : (Jvm.Cond.code ({ cls := "java/util/Arrays", name := "copyOf", desc := "([Ljava/lang/Object;ILjava/lang/Class;)[Ljava/lang/Object;" } : Jvm.MethodName) jdk_65_method_120_code (4 : Nat) (Option.some (Jvm.ClassFile.FieldType.array (Jvm.ClassFile.FieldType.object "java/lang/Object")))).before a0 Z = true := hw _ (List.mem_of_getElem? (i := 142) rfl)
theorem ow143 {a0 : Array Value} {Z : State} (hw : ∀ d ∈ tables_1, d.before a0 Z = true) : (Jvm.Cond.classLink "java/util/Arrays" (110 : Nat) "[Ljava/lang/Object;").before a0 Z = true := hw _ (List.mem_of_getElem? (i := 143) rfl)
theorem ow144 {a0 : Array Value} {Z : State} (hw : ∀ d ∈ tables_1, d.before a0 Z = true) : (Jvm.Cond.classLink "java/util/Arrays" (2 : Nat) "java/lang/Object").before a0 Z = true := hw _ (List.mem_of_getElem? (i := 144) rfl)
theorem ow145 {a0 : Array Value} {Z : State} (hw : ∀ d ∈ tables_1, d.before a0 Z = true) : (Jvm.Cond.methodLink "java/util/Arrays" (304 : Nat) ({ cls := "java/lang/Math", name := "min", desc := "(II)I" } : Jvm.MethodName)).before a0 Z = true := hw _ (List.mem_of_getElem? (i := 145) rfl)
theorem ow146 {a0 : Array Value} {Z : State} (hw : ∀ d ∈ tables_1, d.before a0 Z = true) : (Jvm.Cond.static ({ cls := "java/lang/Math", name := "min", desc := "(II)I" } : Jvm.MethodName)).before a0 Z = true := hw _ (List.mem_of_getElem? (i := 146) rfl)
theorem ow147 {a0 : Array Value} {Z : State} (hw : ∀ d ∈ tables_1, d.before a0 Z = true) : (Jvm.Cond.code ({ cls := "java/lang/Math", name := "min", desc := "(II)I" } : Jvm.MethodName) jdk_29_method_69_code (2 : Nat) (Option.some Jvm.ClassFile.FieldType.int)).before a0 Z = true := hw _ (List.mem_of_getElem? (i := 147) rfl)
theorem ow148 {a0 : Array Value} {Z : State} (hw : ∀ d ∈ tables_1, d.before a0 Z = true) : (Jvm.Cond.methodLink "java/util/Arrays" (150 : Nat) ({ cls := "java/lang/System", name := "arraycopy", desc := "(Ljava/lang/Object;ILjava/lang/Object;II)V" } : Jvm.MethodName)).before a0 Z = true := hw _ (List.mem_of_getElem? (i := 148) rfl)
theorem ow149 {a0 : Array Value} {Z : State} (hw : ∀ d ∈ tables_1, d.before a0 Z = true) : (Jvm.Cond.static ({ cls := "java/lang/System", name := "arraycopy", desc := "(Ljava/lang/Object;ILjava/lang/Object;II)V" } : Jvm.MethodName)).before a0 Z = true := hw _ (List.mem_of_getElem? (i := 149) rfl)
theorem ow150 {a0 : Array Value} {Z : State} (hw : ∀ d ∈ tables_1, d.before a0 Z = true) : (Jvm.Cond.initialized "java/lang/System").before a0 Z = true := hw _ (List.mem_of_getElem? (i := 150) rfl)
theorem ow151 {a0 : Array Value} {Z : State} (hw : ∀ d ∈ tables_1, d.before a0 Z = true) : (Jvm.Cond.native ({ cls := "java/lang/System", name := "arraycopy", desc := "(Ljava/lang/Object;ILjava/lang/Object;II)V" } : Jvm.MethodName)).before a0 Z = true := hw _ (List.mem_of_getElem? (i := 151) rfl)
theorem ow152 {a0 : Array Value} {Z : State} (hw : ∀ d ∈ tables_1, d.before a0 Z = true) : (Jvm.Cond.methodLink "java/util/ImmutableCollections" (34 : Nat) ({ cls := "java/util/List", name := "of", desc := "([Ljava/lang/Object;)Ljava/util/List;" } : Jvm.MethodName)).before a0 Z = true := hw _ (List.mem_of_getElem? (i := 152) rfl)
theorem ow153 {a0 : Array Value} {Z : State} (hw : ∀ d ∈ tables_1, d.before a0 Z = true) : (Jvm.Cond.static ({ cls := "java/util/List", name := "of", desc := "([Ljava/lang/Object;)Ljava/util/List;" } : Jvm.MethodName)).before a0 Z = true := hw _ (List.mem_of_getElem? (i := 153) rfl)
theorem ow154 {a0 : Array Value} {Z : State} (hw : ∀ d ∈ tables_1, d.before a0 Z = true) : (Jvm.Cond.code ({ cls := "java/util/List", name := "of", desc := "([Ljava/lang/Object;)Ljava/util/List;" } : Jvm.MethodName) jdk_40_method_47_code (2 : Nat) (Option.some (Jvm.ClassFile.FieldType.object "java/util/List"))).before a0 Z = true := hw _ (List.mem_of_getElem? (i := 154) rfl)
theorem ow155 {a0 : Array Value} {Z : State} (hw : ∀ d ∈ tables_1, d.before a0 Z = true) : (Jvm.Cond.methodLink "java/util/List" (109 : Nat) ({ cls := "java/util/ImmutableCollections", name := "listFromArray", desc := "([Ljava/lang/Object;)Ljava/util/List;" } : Jvm.MethodName)).before a0 Z = true := hw _ (List.mem_of_getElem? (i := 155) rfl)
theorem ow156 {a0 : Array Value} {Z : State} (hw : ∀ d ∈ tables_1, d.before a0 Z = true) : (Jvm.Cond.static ({ cls := "java/util/ImmutableCollections", name := "listFromArray", desc := "([Ljava/lang/Object;)Ljava/util/List;" } : Jvm.MethodName)).before a0 Z = true := hw _ (List.mem_of_getElem? (i := 156) rfl)
theorem ow157 {a0 : Array Value} {Z : State} (hw : ∀ d ∈ tables_1, d.before a0 Z = true) : (Jvm.Cond.code ({ cls := "java/util/ImmutableCollections", name := "listFromArray", desc := "([Ljava/lang/Object;)Ljava/util/List;" } : Jvm.MethodName) jdk_56_method_4_code (3 : Nat) (Option.some (Jvm.ClassFile.FieldType.object "java/util/List"))).before a0 Z = true := hw _ (List.mem_of_getElem? (i := 157) rfl)
theorem ow158 {a0 : Array Value} {Z : State} (hw : ∀ d ∈ tables_1, d.before a0 Z = true) : (Jvm.Cond.classLink "java/util/ImmutableCollections" (2 : Nat) "java/lang/Object").before a0 Z = true := hw _ (List.mem_of_getElem? (i := 158) rfl)
theorem ow159 {a0 : Array Value} {Z : State} (hw : ∀ d ∈ tables_1, d.before a0 Z = true) : (Jvm.Cond.methodLink "java/util/ImmutableCollections" (37 : Nat) ({ cls := "java/util/Objects", name := "requireNonNull", desc := "(Ljava/lang/Object;)Ljava/lang/Object;" } : Jvm.MethodName)).before a0 Z = true := hw _ (List.mem_of_getElem? (i := 159) rfl)
theorem ow160 {a0 : Array Value} {Z : State} (hw : ∀ d ∈ tables_1, d.before a0 Z = true) : (Jvm.Cond.static ({ cls := "java/util/Objects", name := "requireNonNull", desc := "(Ljava/lang/Object;)Ljava/lang/Object;" } : Jvm.MethodName)).before a0 Z = true := hw _ (List.mem_of_getElem? (i := 160) rfl)
theorem ow161 {a0 : Array Value} {Z : State} (hw : ∀ d ∈ tables_1, d.before a0 Z = true) : (Jvm.Cond.initialized "java/util/Objects").before a0 Z = true := hw _ (List.mem_of_getElem? (i := 161) rfl)
theorem ow162 {a0 : Array Value} {Z : State} (hw : ∀ d ∈ tables_1, d.before a0 Z = true) : (Jvm.Cond.code ({ cls := "java/util/Objects", name := "requireNonNull", desc := "(Ljava/lang/Object;)Ljava/lang/Object;" } : Jvm.MethodName) jdk_31_method_10_code (1 : Nat) (Option.some (Jvm.ClassFile.FieldType.object "java/lang/Object"))).before a0 Z = true := hw _ (List.mem_of_getElem? (i := 162) rfl)
theorem ow163 {a0 : Array Value} {Z : State} (hw : ∀ d ∈ tables_1, d.before a0 Z = true) : (Jvm.Cond.instantiable "java/util/ImmutableCollections$ListN" (2 : Nat)).before a0 Z = true := hw _ (List.mem_of_getElem? (i := 163) rfl)
theorem ow164 {a0 : Array Value} {Z : State} (hw : ∀ d ∈ tables_1, d.before a0 Z = true) : (Jvm.Cond.initialized "java/util/ImmutableCollections$ListN").before a0 Z = true := hw _ (List.mem_of_getElem? (i := 164) rfl)
theorem ow165 {a0 : Array Value} {Z : State} (hw : ∀ d ∈ tables_1, d.before a0 Z = true) : (Jvm.Cond.methodLinkNest "java/util/ImmutableCollections" (43 : Nat) ({ cls := "java/util/ImmutableCollections$ListN", name := "<init>", desc := "([Ljava/lang/Object;Z)V" } : Jvm.MethodName) "java/util/ImmutableCollections").before a0 Z = true := hw _ (List.mem_of_getElem? (i := 165) rfl)
theorem ow166 {a0 : Array Value} {Z : State} (hw : ∀ d ∈ tables_1, d.before a0 Z = true) : (Jvm.Cond.instanceMethod ({ cls := "java/util/ImmutableCollections$ListN", name := "<init>", desc := "([Ljava/lang/Object;Z)V" } : Jvm.MethodName)).before a0 Z = true := hw _ (List.mem_of_getElem? (i := 166) rfl)
theorem ow168 {a0 : Array Value} {Z : State} (hw : ∀ d ∈ tables_1, d.before a0 Z = true) : (Jvm.Cond.code ({ cls := "java/util/ImmutableCollections$ListN", name := "<init>", desc := "([Ljava/lang/Object;Z)V" } : Jvm.MethodName) jdk_45_method_1_code (3 : Nat) (Option.none : Option Jvm.ClassFile.FieldType)).before a0 Z = true := hw _ (List.mem_of_getElem? (i := 168) rfl)
theorem ow169 {a0 : Array Value} {Z : State} (hw : ∀ d ∈ tables_1, d.before a0 Z = true) : (Jvm.Cond.methodLink "java/util/ImmutableCollections$ListN" (1 : Nat) ({ cls := "java/util/ImmutableCollections$AbstractImmutableList", name := "<init>", desc := "()V" } : Jvm.MethodName)).before a0 Z = true := hw _ (List.mem_of_getElem? (i := 169) rfl)
theorem ow170 {a0 : Array Value} {Z : State} (hw : ∀ d ∈ tables_1, d.before a0 Z = true) : (Jvm.Cond.instanceMethod ({ cls := "java/util/ImmutableCollections$AbstractImmutableList", name := "<init>", desc := "()V" } : Jvm.MethodName)).before a0 Z = true := hw _ (List.mem_of_getElem? (i := 170) rfl)
theorem ow173 {a0 : Array Value} {Z : State} (hw : ∀ d ∈ tables_1, d.before a0 Z = true) : (Jvm.Cond.initialized "java/util/ImmutableCollections$AbstractImmutableList").before a0 Z = true := hw _ (List.mem_of_getElem? (i := 173) rfl)
theorem ow174 {a0 : Array Value} {Z : State} (hw : ∀ d ∈ tables_1, d.before a0 Z = true) : (Jvm.Cond.code ({ cls := "java/util/ImmutableCollections$AbstractImmutableList", name := "<init>", desc := "()V" } : Jvm.MethodName) jdk_46_method_1_code (1 : Nat) (Option.none : Option Jvm.ClassFile.FieldType)).before a0 Z = true := hw _ (List.mem_of_getElem? (i := 174) rfl)
theorem ow175 {a0 : Array Value} {Z : State} (hw : ∀ d ∈ tables_1, d.before a0 Z = true) : (Jvm.Cond.methodLink "java/util/ImmutableCollections$AbstractImmutableList" (1 : Nat) ({ cls := "java/util/ImmutableCollections$AbstractImmutableCollection", name := "<init>", desc := "()V" } : Jvm.MethodName)).before a0 Z = true := hw _ (List.mem_of_getElem? (i := 175) rfl)
theorem ow176 {a0 : Array Value} {Z : State} (hw : ∀ d ∈ tables_1, d.before a0 Z = true) : (Jvm.Cond.instanceMethod ({ cls := "java/util/ImmutableCollections$AbstractImmutableCollection", name := "<init>", desc := "()V" } : Jvm.MethodName)).before a0 Z = true := hw _ (List.mem_of_getElem? (i := 176) rfl)
theorem ow179 {a0 : Array Value} {Z : State} (hw : ∀ d ∈ tables_1, d.before a0 Z = true) : (Jvm.Cond.initialized "java/util/ImmutableCollections$AbstractImmutableCollection").before a0 Z = true := hw _ (List.mem_of_getElem? (i := 179) rfl)
theorem ow180 {a0 : Array Value} {Z : State} (hw : ∀ d ∈ tables_1, d.before a0 Z = true) : (Jvm.Cond.code ({ cls := "java/util/ImmutableCollections$AbstractImmutableCollection", name := "<init>", desc := "()V" } : Jvm.MethodName) jdk_47_method_1_code (1 : Nat) (Option.none : Option Jvm.ClassFile.FieldType)).before a0 Z = true := hw _ (List.mem_of_getElem? (i := 180) rfl)
theorem ow181 {a0 : Array Value} {Z : State} (hw : ∀ d ∈ tables_1, d.before a0 Z = true) : (Jvm.Cond.methodLink "java/util/ImmutableCollections$AbstractImmutableCollection" (1 : Nat) ({ cls := "java/util/AbstractCollection", name := "<init>", desc := "()V" } : Jvm.MethodName)).before a0 Z = true := hw _ (List.mem_of_getElem? (i := 181) rfl)
theorem ow183 {a0 : Array Value} {Z : State} (hw : ∀ d ∈ tables_1, d.before a0 Z = true) : (Jvm.Cond.fieldLink "java/util/ImmutableCollections$ListN" (7 : Nat) "java/util/ImmutableCollections$ListN" "elements" "[Ljava/lang/Object;").before a0 Z = true := hw _ (List.mem_of_getElem? (i := 183) rfl)
theorem ow184 {a0 : Array Value} {Z : State} (hw : ∀ d ∈ tables_1, d.before a0 Z = true) : (Jvm.Cond.laysFinal "java/util/ImmutableCollections$ListN" "java/util/ImmutableCollections$ListN" "elements" "[Ljava/lang/Object;").before a0 Z = true := hw _ (List.mem_of_getElem? (i := 184) rfl)
theorem ow185 {a0 : Array Value} {Z : State} (hw : ∀ d ∈ tables_1, d.before a0 Z = true) : (Jvm.Cond.fieldLink "java/util/ImmutableCollections$ListN" (13 : Nat) "java/util/ImmutableCollections$ListN" "allowNulls" "Z").before a0 Z = true := hw _ (List.mem_of_getElem? (i := 185) rfl)
theorem ow186 {a0 : Array Value} {Z : State} (hw : ∀ d ∈ tables_1, d.before a0 Z = true) : (Jvm.Cond.laysFinal "java/util/ImmutableCollections$ListN" "java/util/ImmutableCollections$ListN" "allowNulls" "Z").before a0 Z = true := hw _ (List.mem_of_getElem? (i := 186) rfl)
theorem ow187 {a0 : Array Value} {Z : State} (hw : ∀ d ∈ tables_1, d.before a0 Z = true) : (Jvm.Cond.fieldLink "com/example/atropos/atropos/analysis/Admission" (13 : Nat) "com/example/atropos/atropos/analysis/Admission" "serviceExceeded" "Ljava/util/List;").before a0 Z = true := hw _ (List.mem_of_getElem? (i := 187) rfl)
theorem ow188 {a0 : Array Value} {Z : State} (hw : ∀ d ∈ tables_1, d.before a0 Z = true) : (Jvm.Cond.laysFinal "com/example/atropos/atropos/analysis/Admission" "com/example/atropos/atropos/analysis/Admission" "serviceExceeded" "Ljava/util/List;").before a0 Z = true := hw _ (List.mem_of_getElem? (i := 188) rfl)
theorem ow189 {a0 : Array Value} {Z : State} (hw : ∀ d ∈ tables_1, d.before a0 Z = true) : (Jvm.Cond.fieldLink "com/example/atropos/atropos/analysis/Admission" (19 : Nat) "com/example/atropos/atropos/analysis/Admission" "rateExceeded" "Ljava/util/List;").before a0 Z = true := hw _ (List.mem_of_getElem? (i := 189) rfl)
theorem ow190 {a0 : Array Value} {Z : State} (hw : ∀ d ∈ tables_1, d.before a0 Z = true) : (Jvm.Cond.laysFinal "com/example/atropos/atropos/analysis/Admission" "com/example/atropos/atropos/analysis/Admission" "rateExceeded" "Ljava/util/List;").before a0 Z = true := hw _ (List.mem_of_getElem? (i := 190) rfl)
theorem ow191 {a0 : Array Value} {Z : State} (hw : ∀ d ∈ tables_1, d.before a0 Z = true) : (Jvm.Cond.methodLink "com/example/atropos/atropos/analysis/AdmissionAdmitsPinLaw" (29 : Nat) ({ cls := "com/example/atropos/atropos/analysis/Admission", name := "admits", desc := "()Z" } : Jvm.MethodName)).before a0 Z = true := hw _ (List.mem_of_getElem? (i := 191) rfl)
theorem ow192 {a0 : Array Value} {Z : State} (hw : ∀ d ∈ tables_1, d.before a0 Z = true) : (Jvm.Cond.declares ({ cls := "com/example/atropos/atropos/analysis/Admission", name := "admits", desc := "()Z" } : Jvm.MethodName)).before a0 Z = true := hw _ (List.mem_of_getElem? (i := 192) rfl)
theorem ow193 {a0 : Array Value} {Z : State} (hw : ∀ d ∈ tables_1, d.before a0 Z = true) : (Jvm.Cond.instanceMethod ({ cls := "com/example/atropos/atropos/analysis/Admission", name := "admits", desc := "()Z" } : Jvm.MethodName)).before a0 Z = true := hw _ (List.mem_of_getElem? (i := 193) rfl)
theorem ow194 {a0 : Array Value} {Z : State} (hw : ∀ d ∈ tables_1, d.before a0 Z = true) : (Jvm.Cond.selects "com/example/atropos/atropos/analysis/Admission" ({ cls := "com/example/atropos/atropos/analysis/Admission", name := "admits", desc := "()Z" } : Jvm.MethodName) ({ cls := "com/example/atropos/atropos/analysis/Admission", name := "admits", desc := "()Z" } : Jvm.MethodName)).before a0 Z = true := hw _ (List.mem_of_getElem? (i := 194) rfl)
theorem ow195 {a0 : Array Value} {Z : State} (hw : ∀ d ∈ tables_1, d.before a0 Z = true) : (Jvm.Cond.code ({ cls := "com/example/atropos/atropos/analysis/Admission", name := "admits", desc := "()Z" } : Jvm.MethodName) prog_1_method_3_code (1 : Nat) (Option.some Jvm.ClassFile.FieldType.boolean)).before a0 Z = true := hw _ (List.mem_of_getElem? (i := 195) rfl)
theorem ow196 {a0 : Array Value} {Z : State} (hw : ∀ d ∈ tables_1, d.before a0 Z = true) : (Jvm.Cond.methodLink "com/example/atropos/atropos/analysis/Admission" (60 : Nat) ({ cls := "java/util/List", name := "isEmpty", desc := "()Z" } : Jvm.MethodName)).before a0 Z = true := hw _ (List.mem_of_getElem? (i := 196) rfl)
theorem ow197 {a0 : Array Value} {Z : State} (hw : ∀ d ∈ tables_1, d.before a0 Z = true) : (Jvm.Cond.declares ({ cls := "java/util/List", name := "isEmpty", desc := "()Z" } : Jvm.MethodName)).before a0 Z = true := hw _ (List.mem_of_getElem? (i := 197) rfl)
theorem ow198 {a0 : Array Value} {Z : State} (hw : ∀ d ∈ tables_1, d.before a0 Z = true) : (Jvm.Cond.interfaceMethod "java/util/List" "java/util/List" "isEmpty" "()Z").before a0 Z = true := hw _ (List.mem_of_getElem? (i := 198) rfl)
theorem ow199 {a0 : Array Value} {Z : State} (hw : ∀ d ∈ tables_1, d.before a0 Z = true) : (Jvm.Cond.selects "java/util/ImmutableCollections$ListN" ({ cls := "java/util/List", name := "isEmpty", desc := "()Z" } : Jvm.MethodName) ({ cls := "java/util/ImmutableCollections$ListN", name := "isEmpty", desc := "()Z" } : Jvm.MethodName)).before a0 Z = true := hw _ (List.mem_of_getElem? (i := 199) rfl)
theorem ow200 {a0 : Array Value} {Z : State} (hw : ∀ d ∈ tables_1, d.before a0 Z = true) : (Jvm.Cond.instanceMethod ({ cls := "java/util/ImmutableCollections$ListN", name := "isEmpty", desc := "()Z" } : Jvm.MethodName)).before a0 Z = true := hw _ (List.mem_of_getElem? (i := 200) rfl)
theorem ow201 {a0 : Array Value} {Z : State} (hw : ∀ d ∈ tables_1, d.before a0 Z = true) : (Jvm.Cond.publicMethod ({ cls := "java/util/ImmutableCollections$ListN", name := "isEmpty", desc := "()Z" } : Jvm.MethodName)).before a0 Z = true := hw _ (List.mem_of_getElem? (i := 201) rfl)
theorem ow202 {a0 : Array Value} {Z : State} (hw : ∀ d ∈ tables_1, d.before a0 Z = true) : (Jvm.Cond.unhidden "java/util/ImmutableCollections$ListN" "isEmpty" "()Z").before a0 Z = true := hw _ (List.mem_of_getElem? (i := 202) rfl)
theorem ow203 {a0 : Array Value} {Z : State} (hw : ∀ d ∈ tables_1, d.before a0 Z = true) : (Jvm.Cond.castable "java/util/ImmutableCollections$ListN" "java/util/List").before a0 Z = true := hw _ (List.mem_of_getElem? (i := 203) rfl)
theorem ow204 {a0 : Array Value} {Z : State} (hw : ∀ d ∈ tables_1, d.before a0 Z = true) : (Jvm.Cond.code ({ cls := "java/util/ImmutableCollections$ListN", name := "isEmpty", desc := "()Z" } : Jvm.MethodName) jdk_45_method_2_code (1 : Nat) (Option.some Jvm.ClassFile.FieldType.boolean)).before a0 Z = true := hw _ (List.mem_of_getElem? (i := 204) rfl)
theorem ow205 {a0 : Array Value} {Z : State} (hw : ∀ d ∈ tables_1, d.before a0 Z = true) : (Jvm.Cond.castable "com/example/atropos/atropos/ops/Excess$Span" "java/lang/Object").before a0 Z = true := hw _ (List.mem_of_getElem? (i := 205) rfl)
theorem ow206 {a0 : Array Value} {Z : State} (hw : ∀ d ∈ tables_1, d.before a0 Z = true) : (Jvm.Cond.classLink "java/util/List" (96 : Nat) "java/util/ImmutableCollections$List12").before a0 Z = true := hw _ (List.mem_of_getElem? (i := 206) rfl)
theorem ow207 {a0 : Array Value} {Z : State} (hw : ∀ d ∈ tables_1, d.before a0 Z = true) : (Jvm.Cond.instantiable "java/util/ImmutableCollections$List12" (2 : Nat)).before a0 Z = true := hw _ (List.mem_of_getElem? (i := 207) rfl)
theorem ow208 {a0 : Array Value} {Z : State} (hw : ∀ d ∈ tables_1, d.before a0 Z = true) : (Jvm.Cond.initialized "java/util/ImmutableCollections$List12").before a0 Z = true := hw _ (List.mem_of_getElem? (i := 208) rfl)
theorem ow209 {a0 : Array Value} {Z : State} (hw : ∀ d ∈ tables_1, d.before a0 Z = true) : (Jvm.Cond.methodLink "java/util/List" (100 : Nat) ({ cls := "java/util/ImmutableCollections$List12", name := "<init>", desc := "(Ljava/lang/Object;Ljava/lang/Object;)V" } : Jvm.MethodName)).before a0 Z = true := hw _ (List.mem_of_getElem? (i := 209) rfl)
theorem ow210 {a0 : Array Value} {Z : State} (hw : ∀ d ∈ tables_1, d.before a0 Z = true) : (Jvm.Cond.instanceMethod ({ cls := "java/util/ImmutableCollections$List12", name := "<init>", desc := "(Ljava/lang/Object;Ljava/lang/Object;)V" } : Jvm.MethodName)).before a0 Z = true := hw _ (List.mem_of_getElem? (i := 210) rfl)
theorem ow212 {a0 : Array Value} {Z : State} (hw : ∀ d ∈ tables_1, d.before a0 Z = true) : (Jvm.Cond.code ({ cls := "java/util/ImmutableCollections$List12", name := "<init>", desc := "(Ljava/lang/Object;Ljava/lang/Object;)V" } : Jvm.MethodName) jdk_44_method_2_code (3 : Nat) (Option.none : Option Jvm.ClassFile.FieldType)).before a0 Z = true := hw _ (List.mem_of_getElem? (i := 212) rfl)
theorem ow213 {a0 : Array Value} {Z : State} (hw : ∀ d ∈ tables_1, d.before a0 Z = true) : (Jvm.Cond.methodLink "java/util/ImmutableCollections$List12" (1 : Nat) ({ cls := "java/util/ImmutableCollections$AbstractImmutableList", name := "<init>", desc := "()V" } : Jvm.MethodName)).before a0 Z = true := hw _ (List.mem_of_getElem? (i := 213) rfl)
theorem ow217 {a0 : Array Value} {Z : State} (hw : ∀ d ∈ tables_1, d.before a0 Z = true) : (Jvm.Cond.methodLink "java/util/ImmutableCollections$List12" (7 : Nat) ({ cls := "java/util/Objects", name := "requireNonNull", desc := "(Ljava/lang/Object;)Ljava/lang/Object;" } : Jvm.MethodName)).before a0 Z = true := hw _ (List.mem_of_getElem? (i := 217) rfl)
theorem ow218 {a0 : Array Value} {Z : State} (hw : ∀ d ∈ tables_1, d.before a0 Z = true) : (Jvm.Cond.fieldLink "java/util/ImmutableCollections$List12" (13 : Nat) "java/util/ImmutableCollections$List12" "e0" "Ljava/lang/Object;").before a0 Z = true := hw _ (List.mem_of_getElem? (i := 218) rfl)
theorem ow219 {a0 : Array Value} {Z : State} (hw : ∀ d ∈ tables_1, d.before a0 Z = true) : (Jvm.Cond.laysFinal "java/util/ImmutableCollections$List12" "java/util/ImmutableCollections$List12" "e0" "Ljava/lang/Object;").before a0 Z = true := hw _ (List.mem_of_getElem? (i := 219) rfl)
theorem ow220 {a0 : Array Value} {Z : State} (hw : ∀ d ∈ tables_1, d.before a0 Z = true) : (Jvm.Cond.fieldLink "java/util/ImmutableCollections$List12" (24 : Nat) "java/util/ImmutableCollections$List12" "e1" "Ljava/lang/Object;").before a0 Z = true := hw _ (List.mem_of_getElem? (i := 220) rfl)
theorem ow221 {a0 : Array Value} {Z : State} (hw : ∀ d ∈ tables_1, d.before a0 Z = true) : (Jvm.Cond.laysFinal "java/util/ImmutableCollections$List12" "java/util/ImmutableCollections$List12" "e1" "Ljava/lang/Object;").before a0 Z = true := hw _ (List.mem_of_getElem? (i := 221) rfl)
theorem ow222 {a0 : Array Value} {Z : State} (hw : ∀ d ∈ tables_1, d.before a0 Z = true) : (Jvm.Cond.methodLink "java/util/List" (98 : Nat) ({ cls := "java/util/ImmutableCollections$List12", name := "<init>", desc := "(Ljava/lang/Object;)V" } : Jvm.MethodName)).before a0 Z = true := hw _ (List.mem_of_getElem? (i := 222) rfl)
theorem ow223 {a0 : Array Value} {Z : State} (hw : ∀ d ∈ tables_1, d.before a0 Z = true) : (Jvm.Cond.instanceMethod ({ cls := "java/util/ImmutableCollections$List12", name := "<init>", desc := "(Ljava/lang/Object;)V" } : Jvm.MethodName)).before a0 Z = true := hw _ (List.mem_of_getElem? (i := 223) rfl)
theorem ow224 {a0 : Array Value} {Z : State} (hw : ∀ d ∈ tables_1, d.before a0 Z = true) : (Jvm.Cond.code ({ cls := "java/util/ImmutableCollections$List12", name := "<init>", desc := "(Ljava/lang/Object;)V" } : Jvm.MethodName) jdk_44_method_1_code (2 : Nat) (Option.none : Option Jvm.ClassFile.FieldType)).before a0 Z = true := hw _ (List.mem_of_getElem? (i := 224) rfl)
theorem ow225 {a0 : Array Value} {Z : State} (hw : ∀ d ∈ tables_1, d.before a0 Z = true) : (Jvm.Cond.fieldLinkNest "java/util/ImmutableCollections$List12" (19 : Nat) "java/util/ImmutableCollections" "EMPTY" "Ljava/lang/Object;" "java/util/ImmutableCollections").before a0 Z = true := hw _ (List.mem_of_getElem? (i := 225) rfl)
theorem ow226 {a0 : Array Value} {Z : State} (hw : ∀ d ∈ tables_1, d.before a0 Z = true) : (Jvm.Cond.selects "java/util/ImmutableCollections$List12" ({ cls := "java/util/List", name := "isEmpty", desc := "()Z" } : Jvm.MethodName) ({ cls := "java/util/ImmutableCollections$List12", name := "isEmpty", desc := "()Z" } : Jvm.MethodName)).before a0 Z = true := hw _ (List.mem_of_getElem? (i := 226) rfl)
theorem ow227 {a0 : Array Value} {Z : State} (hw : ∀ d ∈ tables_1, d.before a0 Z = true) : (Jvm.Cond.instanceMethod ({ cls := "java/util/ImmutableCollections$List12", name := "isEmpty", desc := "()Z" } : Jvm.MethodName)).before a0 Z = true := hw _ (List.mem_of_getElem? (i := 227) rfl)
theorem ow228 {a0 : Array Value} {Z : State} (hw : ∀ d ∈ tables_1, d.before a0 Z = true) : (Jvm.Cond.publicMethod ({ cls := "java/util/ImmutableCollections$List12", name := "isEmpty", desc := "()Z" } : Jvm.MethodName)).before a0 Z = true := hw _ (List.mem_of_getElem? (i := 228) rfl)
theorem ow229 {a0 : Array Value} {Z : State} (hw : ∀ d ∈ tables_1, d.before a0 Z = true) : (Jvm.Cond.unhidden "java/util/ImmutableCollections$List12" "isEmpty" "()Z").before a0 Z = true := hw _ (List.mem_of_getElem? (i := 229) rfl)
theorem ow230 {a0 : Array Value} {Z : State} (hw : ∀ d ∈ tables_1, d.before a0 Z = true) : (Jvm.Cond.castable "java/util/ImmutableCollections$List12" "java/util/List").before a0 Z = true := hw _ (List.mem_of_getElem? (i := 230) rfl)
theorem ow231 {a0 : Array Value} {Z : State} (hw : ∀ d ∈ tables_1, d.before a0 Z = true) : (Jvm.Cond.code ({ cls := "java/util/ImmutableCollections$List12", name := "isEmpty", desc := "()Z" } : Jvm.MethodName) jdk_44_method_4_code (1 : Nat) (Option.some Jvm.ClassFile.FieldType.boolean)).before a0 Z = true := hw _ (List.mem_of_getElem? (i := 231) rfl)
theorem pd0 : parseMethodDescriptor "()V" = some ⟨[], none⟩ := by decide +kernel
theorem pd1 : parseMethodDescriptor "(II)I" = some ⟨[.int, .int], some .int⟩ := by decide +kernel
theorem pd2 : parseMethodDescriptor "(I)[Ljava/lang/Object;" = some ⟨[.int], some (.array (.object "java/lang/Object"))⟩ := by decide +kernel
theorem pd3 : parseMethodDescriptor "()[Ljava/lang/Object;" = some ⟨[], some (.array (.object "java/lang/Object"))⟩ := by decide +kernel
theorem pd4 : parseMethodDescriptor "(Ljava/lang/Object;[Ljava/lang/Object;I)V" = some ⟨[(.object "java/lang/Object"), (.array (.object "java/lang/Object")), .int], none⟩ := by decide +kernel
theorem pd5 : parseMethodDescriptor "(Ljava/lang/Object;)Ljava/lang/Object;" = some ⟨[(.object "java/lang/Object")], some (.object "java/lang/Object")⟩ := by decide +kernel
theorem pd6 : parseMethodDescriptor "([Ljava/lang/Object;Z)V" = some ⟨[(.array (.object "java/lang/Object")), .boolean], none⟩ := by decide +kernel
theorem pd7 : parseMethodDescriptor "(Ljava/lang/Object;)V" = some ⟨[(.object "java/lang/Object")], none⟩ := by decide +kernel
theorem pd8 : parseMethodDescriptor "(Ljava/lang/Object;Ljava/lang/Object;)V" = some ⟨[(.object "java/lang/Object"), (.object "java/lang/Object")], none⟩ := by decide +kernel
theorem pd9 : parseMethodDescriptor "([Ljava/lang/Object;)Ljava/util/List;" = some ⟨[(.array (.object "java/lang/Object"))], some (.object "java/util/List")⟩ := by decide +kernel
theorem pd10 : parseMethodDescriptor "([Ljava/lang/Object;ILjava/lang/Class;)[Ljava/lang/Object;" = some ⟨[(.array (.object "java/lang/Object")), .int, (.object "java/lang/Class")], some (.array (.object "java/lang/Object"))⟩ := by decide +kernel
theorem pd11 : parseMethodDescriptor "([Ljava/lang/Object;I)[Ljava/lang/Object;" = some ⟨[(.array (.object "java/lang/Object")), .int], some (.array (.object "java/lang/Object"))⟩ := by decide +kernel
theorem pd12 : parseMethodDescriptor "()Z" = some ⟨[], some .boolean⟩ := by decide +kernel
theorem pd13 : parseMethodDescriptor "()Ljava/util/List;" = some ⟨[], some (.object "java/util/List")⟩ := by decide +kernel
theorem pd14 : parseMethodDescriptor "(Ljava/util/Collection;)Ljava/util/List;" = some ⟨[(.object "java/util/Collection")], some (.object "java/util/List")⟩ := by decide +kernel
theorem pd15 : parseMethodDescriptor "(Lcom/example/atropos/atropos/model/Rational;Lcom/example/atropos/atropos/model/Rational;)V" = some ⟨[(.object "com/example/atropos/atropos/model/Rational"), (.object "com/example/atropos/atropos/model/Rational")], none⟩ := by decide +kernel
theorem pd16 : parseMethodDescriptor "(Lcom/example/atropos/atropos/model/Rational;Lcom/example/atropos/atropos/model/Rational;Lcom/example/atropos/atropos/model/Rational;Lcom/example/atropos/atropos/model/Rational;)V" = some ⟨[(.object "com/example/atropos/atropos/model/Rational"), (.object "com/example/atropos/atropos/model/Rational"), (.object "com/example/atropos/atropos/model/Rational"), (.object "com/example/atropos/atropos/model/Rational")], none⟩ := by decide +kernel
theorem pd17 : parseMethodDescriptor "(Ljava/util/List;Ljava/util/List;)V" = some ⟨[(.object "java/util/List"), (.object "java/util/List")], none⟩ := by decide +kernel
theorem pd18 : parseMethodDescriptor "(Ljava/lang/Object;)Z" = some ⟨[(.object "java/lang/Object")], some .boolean⟩ := by decide +kernel
theorem pn0 : plainName "java/lang/Record" = true := by first | (simp [plainName, overriddenIn]; done) | decide +kernel
theorem pn1 : plainName "java/util/AbstractCollection" = true := by first | (simp [plainName, overriddenIn]; done) | decide +kernel
theorem pn2 : plainName "java/util/ImmutableCollections$AbstractImmutableCollection" = true := by first | (simp [plainName, overriddenIn]; done) | decide +kernel
theorem pn3 : plainName "java/util/ImmutableCollections$AbstractImmutableList" = true := by first | (simp [plainName, overriddenIn]; done) | decide +kernel
theorem pn4 : plainName "com/example/atropos/atropos/ops/Excess$Span" = true := by first | (simp [plainName, overriddenIn]; done) | decide +kernel
theorem pn5 : plainName "com/example/atropos/atropos/ops/Excess$Rate" = true := by first | (simp [plainName, overriddenIn]; done) | decide +kernel
theorem pn6 : plainName "java/util/AbstractList" = true := by first | (simp [plainName, overriddenIn]; done) | decide +kernel
theorem pn7 : plainName "java/util/ArrayList" = true := by first | (simp [plainName, overriddenIn]; done) | decide +kernel
theorem pn8 : plainName "java/util/Objects" = true := by first | (simp [plainName, overriddenIn]; done) | decide +kernel
theorem pn9 : plainName "java/util/ImmutableCollections$List12" = true := by first | (simp [plainName, overriddenIn]; done) | decide +kernel
theorem pn10 : plainName "java/util/ImmutableCollections$ListN" = true := by first | (simp [plainName, overriddenIn]; done) | decide +kernel
theorem pn11 : plainName "java/util/ImmutableCollections" = true := by first | (simp [plainName, overriddenIn]; done) | decide +kernel
theorem pn12 : plainName "java/util/List" = true := by first | (simp [plainName, overriddenIn]; done) | decide +kernel
theorem pn13 : plainName "java/util/Arrays" = true := by first | (simp [plainName, overriddenIn]; done) | decide +kernel
theorem pn14 : plainName "com/example/atropos/atropos/analysis/Admission" = true := by first | (simp [plainName, overriddenIn]; done) | decide +kernel
theorem pn15 : plainName "com/example/atropos/atropos/analysis/AdmissionAdmitsPinLaw" = true := by first | (simp [plainName, overriddenIn]; done) | decide +kernel
theorem d_jdk_30_method_1_code_0 : decode jdk_30_method_1_code 0 = .ok (.aload_n 0, 1) := by decide +kernel
theorem d_jdk_30_method_1_code_1 : decode jdk_30_method_1_code 1 = .ok (.invokespecial 1, 3) := by decide +kernel
theorem d_jdk_30_method_1_code_4 : decode jdk_30_method_1_code 4 = .ok (.return_, 1) := by decide +kernel
def Q_rmrec (Z : State) (a : Addr) (h0 : Heap) (n0 : Nat) (v : Option Value) (h : Heap) (L : List Loc) : Prop := v = none ∧ Fr n0 L ∧ h = h0
theorem ef_rmrec (m : MethodId) (a : Addr) : entryFrame m #[(.ref a)] 1 = mkF m 0 #[.val (.ref a)] [] := by first | (simp [entryFrame, mkF, argsToLocals, Value.category]; done) | rfl
set_option maxRecDepth 65536 in
set_option maxHeartbeats 40000000 in
theorem rmrec (l : Launch) (Z : State) (a0 : Array Value) (hw : ∀ d ∈ tables_1, d.before a0 Z = true) (ws : List Jvm.Cond) (a : Addr) (h0 : Heap) (n0 : Nat) (O0 : Old Z n0 h0) :
    MetFree l (⟨"java/lang/Record", "<init>", "()V"⟩ : MethodName) (head1 (Jvm.Cond.code (⟨"java/lang/Record", "<init>", "()V"⟩ : MethodName) jdk_30_method_1_code 1 none :: ws) ({ frames := 1, cells := 0, slots := 0, locals := 12 } : Room)) (fun aa U => aa = #[(.ref a)] ∧ Z.Warmed39 U.vm ∧ U.heap = h0) (fun _ _ _ _ _ => True) (fun _ U o U' => ∃ v L, o = .returned v ∧ Q_rmrec Z a h0 n0 v U'.heap L ∧ FrameEnd U o U' L ({ frames := 1, cells := 0, slots := 0, locals := 12 } : Room).cells ({ frames := 1, cells := 0, slots := 0, locals := 12 } : Room).slots) := by
  refine MetFree.of_bodySF (plainFor_of_name pn0) hisR ?_
  intro p e s m args below meth c s₁ Bd hml0 hP hK
  obtain ⟨rfl, hZ, hh⟩ := hP
  have hx := Bd.exec
  have hby := Bd.bytes
  have hml : c.maxLocals = 1 := hml0
  have hown : s.vm.findClass "java/lang/Record" = some m.cls := findClass_of_methodNamed Bd.named
  have hnm := (name_of_methodNamed Bd.named Bd.method).1
  have X0 : Stand p l e ({ frames := 1, cells := 0, slots := 0, locals := 12 } : Room) s m #[(.ref a)] below meth c s₁ [] 0 0 := Stand.of_body Bd
  have e0 : s₁.heap = h0 := by rw [← hh, Bd.state]; rfl
  have N0 := Fr.nil n0
  have K0 : Keep h0 h0 [] := Keep.refl _ _
  have pre0 : ∀ tgt, Steps p.tables e below (s₁.setTop (mkF m 0 #[.val (.ref a)] [])) tgt → Steps p.tables e below (s₁.setTop (entryFrame m #[(.ref a)] 1)) tgt := fun tgt kgo => castTop (ef_rmrec m a) kgo
  obtain ⟨T1, X1, e1, st1⟩ := initO X0 hx hZ hown (ow11 hw) (ow12 hw) (ow13 hw) e0 (g := (mkF m 1 #[.val (.ref a)] [(.ref a)])) rfl (by rw [hml]; rfl) rfl (hb hby d_jdk_30_method_1_code_1) (by decide) (W := 0) (by show 2 * 0 + _ ≤ _; exact Nat.le_of_eq rfl) (by decide)
  obtain ⟨fs, hretL, hrun, hended, hW, hsame⟩ := X1.leave (v := none) (fun _ => rfl)
  refine ⟨_, _, pre0 _ ?_, hrun, hended, _, _, rfl, ?_, ⟨_, rfl⟩, hW, hsame.mono (by decide) (by decide)⟩
  · refine XS.aloadN X0.here hx rfl (hb hby d_jdk_30_method_1_code_0) rfl rfl ?_
    show Steps p.tables e below (s₁.setTop (mkF m 1 #[.val (.ref a)] [(.ref a)])) _
    refine st1 _ ?_
    show Steps p.tables e below (T1.setTop (mkF m 4 #[.val (.ref a)] [])) _
    exact X1.returnOut hx Bd.returns (hb hby d_jdk_30_method_1_code_4) hretL
  · show Q_rmrec Z a h0 n0 _ T1.heap _
    rw [e1]
    exact ⟨rfl, N0, rfl⟩
theorem d_jdk_22_method_1_code_0 : decode jdk_22_method_1_code 0 = .ok (.aload_n 0, 1) := by decide +kernel
theorem d_jdk_22_method_1_code_1 : decode jdk_22_method_1_code 1 = .ok (.invokespecial 1, 3) := by decide +kernel
theorem d_jdk_22_method_1_code_4 : decode jdk_22_method_1_code 4 = .ok (.return_, 1) := by decide +kernel
def Q_rmaco (Z : State) (a : Addr) (h0 : Heap) (n0 : Nat) (v : Option Value) (h : Heap) (L : List Loc) : Prop := v = none ∧ Fr n0 L ∧ h = h0
theorem ef_rmaco (m : MethodId) (a : Addr) : entryFrame m #[(.ref a)] 1 = mkF m 0 #[.val (.ref a)] [] := by first | (simp [entryFrame, mkF, argsToLocals, Value.category]; done) | rfl
set_option maxRecDepth 65536 in
set_option maxHeartbeats 40000000 in
theorem rmaco (l : Launch) (Z : State) (a0 : Array Value) (hw : ∀ d ∈ tables_1, d.before a0 Z = true) (ws : List Jvm.Cond) (a : Addr) (h0 : Heap) (n0 : Nat) (O0 : Old Z n0 h0) :
    MetFree l (⟨"java/util/AbstractCollection", "<init>", "()V"⟩ : MethodName) (head1 (Jvm.Cond.code (⟨"java/util/AbstractCollection", "<init>", "()V"⟩ : MethodName) jdk_22_method_1_code 1 none :: ws) ({ frames := 1, cells := 0, slots := 0, locals := 12 } : Room)) (fun aa U => aa = #[(.ref a)] ∧ Z.Warmed39 U.vm ∧ U.heap = h0) (fun _ _ _ _ _ => True) (fun _ U o U' => ∃ v L, o = .returned v ∧ Q_rmaco Z a h0 n0 v U'.heap L ∧ FrameEnd U o U' L ({ frames := 1, cells := 0, slots := 0, locals := 12 } : Room).cells ({ frames := 1, cells := 0, slots := 0, locals := 12 } : Room).slots) := by
  refine MetFree.of_bodySF (plainFor_of_name pn1) hisR ?_
  intro p e s m args below meth c s₁ Bd hml0 hP hK
  obtain ⟨rfl, hZ, hh⟩ := hP
  have hx := Bd.exec
  have hby := Bd.bytes
  have hml : c.maxLocals = 1 := hml0
  have hown : s.vm.findClass "java/util/AbstractCollection" = some m.cls := findClass_of_methodNamed Bd.named
  have hnm := (name_of_methodNamed Bd.named Bd.method).1
  have X0 : Stand p l e ({ frames := 1, cells := 0, slots := 0, locals := 12 } : Room) s m #[(.ref a)] below meth c s₁ [] 0 0 := Stand.of_body Bd
  have e0 : s₁.heap = h0 := by rw [← hh, Bd.state]; rfl
  have N0 := Fr.nil n0
  have K0 : Keep h0 h0 [] := Keep.refl _ _
  have pre0 : ∀ tgt, Steps p.tables e below (s₁.setTop (mkF m 0 #[.val (.ref a)] [])) tgt → Steps p.tables e below (s₁.setTop (entryFrame m #[(.ref a)] 1)) tgt := fun tgt kgo => castTop (ef_rmaco m a) kgo
  obtain ⟨T1, X1, e1, st1⟩ := initO X0 hx hZ hown (ow51 hw) (ow12 hw) (ow13 hw) e0 (g := (mkF m 1 #[.val (.ref a)] [(.ref a)])) rfl (by rw [hml]; rfl) rfl (hb hby d_jdk_22_method_1_code_1) (by decide) (W := 0) (by show 2 * 0 + _ ≤ _; exact Nat.le_of_eq rfl) (by decide)
  obtain ⟨fs, hretL, hrun, hended, hW, hsame⟩ := X1.leave (v := none) (fun _ => rfl)
  refine ⟨_, _, pre0 _ ?_, hrun, hended, _, _, rfl, ?_, ⟨_, rfl⟩, hW, hsame.mono (by decide) (by decide)⟩
  · refine XS.aloadN X0.here hx rfl (hb hby d_jdk_22_method_1_code_0) rfl rfl ?_
    show Steps p.tables e below (s₁.setTop (mkF m 1 #[.val (.ref a)] [(.ref a)])) _
    refine st1 _ ?_
    show Steps p.tables e below (T1.setTop (mkF m 4 #[.val (.ref a)] [])) _
    exact X1.returnOut hx Bd.returns (hb hby d_jdk_22_method_1_code_4) hretL
  · show Q_rmaco Z a h0 n0 _ T1.heap _
    rw [e1]
    exact ⟨rfl, N0, rfl⟩
theorem d_jdk_47_method_1_code_0 : decode jdk_47_method_1_code 0 = .ok (.aload_n 0, 1) := by decide +kernel
theorem d_jdk_47_method_1_code_1 : decode jdk_47_method_1_code 1 = .ok (.invokespecial 1, 3) := by decide +kernel
theorem d_jdk_47_method_1_code_4 : decode jdk_47_method_1_code 4 = .ok (.return_, 1) := by decide +kernel
def Q_rmaic (Z : State) (a : Addr) (h0 : Heap) (n0 : Nat) (v : Option Value) (h : Heap) (L : List Loc) : Prop := v = none ∧ Fr n0 L ∧ h = h0
theorem ef_rmaic (m : MethodId) (a : Addr) : entryFrame m #[(.ref a)] 1 = mkF m 0 #[.val (.ref a)] [] := by first | (simp [entryFrame, mkF, argsToLocals, Value.category]; done) | rfl
set_option maxRecDepth 65536 in
set_option maxHeartbeats 40000000 in
theorem rmaic (l : Launch) (Z : State) (a0 : Array Value) (hw : ∀ d ∈ tables_1, d.before a0 Z = true) (ws : List Jvm.Cond) (a : Addr) (h0 : Heap) (n0 : Nat) (O0 : Old Z n0 h0) :
    MetFree l (⟨"java/util/ImmutableCollections$AbstractImmutableCollection", "<init>", "()V"⟩ : MethodName) (head1 (Jvm.Cond.code (⟨"java/util/ImmutableCollections$AbstractImmutableCollection", "<init>", "()V"⟩ : MethodName) jdk_47_method_1_code 1 none :: ws) ({ frames := 2, cells := 0, slots := 0, locals := 24 } : Room)) (fun aa U => aa = #[(.ref a)] ∧ Z.Warmed39 U.vm ∧ U.heap = h0) (fun _ _ _ _ _ => True) (fun _ U o U' => ∃ v L, o = .returned v ∧ Q_rmaic Z a h0 n0 v U'.heap L ∧ FrameEnd U o U' L ({ frames := 2, cells := 0, slots := 0, locals := 24 } : Room).cells ({ frames := 2, cells := 0, slots := 0, locals := 24 } : Room).slots) := by
  refine MetFree.of_bodySF (plainFor_of_name pn2) hisR ?_
  intro p e s m args below meth c s₁ Bd hml0 hP hK
  obtain ⟨rfl, hZ, hh⟩ := hP
  have hx := Bd.exec
  have hby := Bd.bytes
  have hml : c.maxLocals = 1 := hml0
  have hown : s.vm.findClass "java/util/ImmutableCollections$AbstractImmutableCollection" = some m.cls := findClass_of_methodNamed Bd.named
  have hnm := (name_of_methodNamed Bd.named Bd.method).1
  have X0 : Stand p l e ({ frames := 2, cells := 0, slots := 0, locals := 24 } : Room) s m #[(.ref a)] below meth c s₁ [] 0 0 := Stand.of_body Bd
  have e0 : s₁.heap = h0 := by rw [← hh, Bd.state]; rfl
  have N0 := Fr.nil n0
  have K0 : Keep h0 h0 [] := Keep.refl _ _
  have pre0 : ∀ tgt, Steps p.tables e below (s₁.setTop (mkF m 0 #[.val (.ref a)] [])) tgt → Steps p.tables e below (s₁.setTop (entryFrame m #[(.ref a)] 1)) tgt := fun tgt kgo => castTop (ef_rmaic m a) kgo
  obtain ⟨_, _, ⟨T1, L1, k1, n1⟩, -, X1, ⟨Lc1, hQ1, l1, y1, z1⟩, st1⟩ := X0.specialBack hx (y := (⟨"java/util/AbstractCollection", "<init>", "()V"⟩ : MethodName)) rfl hown (mvT hZ (ow181 hw)) (mvT hZ (ow46 hw)) (mvT hZ (ow50 hw)) (by decide) (backOf (W := 0) (rmaco l Z a0 hw [] a  h0 n0 O0 ) hZ (ow50 hw) (ow49 hw) (by decide) (by decide)) (g := (mkF m 1 #[.val (.ref a)] [(.ref a)])) rfl (by rw [hml]; rfl) (Steps.refl _) (a := a) (argsL := []) (rest := []) (lenOf pd0 rfl) rfl (by show 2 * 0 + _ ≤ _; exact Nat.le_of_eq rfl) (hb hby d_jdk_47_method_1_code_1) (fun _ _ => ⟨rfl, e0, (by decide : 0 + 0 ≤ _), (by decide : 0 + 0 ≤ _)⟩)
  dsimp only [Pt.U, Pt.locs, Pt.cells, Pt.slots] at X1 l1 y1 z1 st1 hQ1
  subst l1 y1 z1
  obtain ⟨rfl, Nq1, eq1⟩ := hQ1
  have N2 := Fr.app N0 Nq1
  obtain ⟨fs, hretL, hrun, hended, hW, hsame⟩ := X1.leave (v := none) (fun _ => rfl)
  refine ⟨_, _, pre0 _ ?_, hrun, hended, _, _, rfl, ?_, ⟨_, rfl⟩, hW, hsame.mono (by decide) (by decide)⟩
  · refine XS.aloadN X0.here hx rfl (hb hby d_jdk_47_method_1_code_0) rfl rfl ?_
    show Steps p.tables e below (s₁.setTop (mkF m 1 #[.val (.ref a)] [(.ref a)])) _
    refine st1.trans ?_
    show Steps p.tables e below (T1.setTop (mkF m 4 #[.val (.ref a)] [])) _
    exact X1.returnOut hx Bd.returns (hb hby d_jdk_47_method_1_code_4) hretL
  · show Q_rmaic Z a h0 n0 _ T1.heap _
    rw [eq1]
    exact ⟨rfl, N2, rfl⟩
theorem d_jdk_46_method_1_code_0 : decode jdk_46_method_1_code 0 = .ok (.aload_n 0, 1) := by decide +kernel
theorem d_jdk_46_method_1_code_1 : decode jdk_46_method_1_code 1 = .ok (.invokespecial 1, 3) := by decide +kernel
theorem d_jdk_46_method_1_code_4 : decode jdk_46_method_1_code 4 = .ok (.return_, 1) := by decide +kernel
def Q_rmail (Z : State) (a : Addr) (h0 : Heap) (n0 : Nat) (v : Option Value) (h : Heap) (L : List Loc) : Prop := v = none ∧ Fr n0 L ∧ h = h0
theorem ef_rmail (m : MethodId) (a : Addr) : entryFrame m #[(.ref a)] 1 = mkF m 0 #[.val (.ref a)] [] := by first | (simp [entryFrame, mkF, argsToLocals, Value.category]; done) | rfl
set_option maxRecDepth 65536 in
set_option maxHeartbeats 40000000 in
theorem rmail (l : Launch) (Z : State) (a0 : Array Value) (hw : ∀ d ∈ tables_1, d.before a0 Z = true) (ws : List Jvm.Cond) (a : Addr) (h0 : Heap) (n0 : Nat) (O0 : Old Z n0 h0) :
    MetFree l (⟨"java/util/ImmutableCollections$AbstractImmutableList", "<init>", "()V"⟩ : MethodName) (head1 (Jvm.Cond.code (⟨"java/util/ImmutableCollections$AbstractImmutableList", "<init>", "()V"⟩ : MethodName) jdk_46_method_1_code 1 none :: ws) ({ frames := 3, cells := 0, slots := 0, locals := 36 } : Room)) (fun aa U => aa = #[(.ref a)] ∧ Z.Warmed39 U.vm ∧ U.heap = h0) (fun _ _ _ _ _ => True) (fun _ U o U' => ∃ v L, o = .returned v ∧ Q_rmail Z a h0 n0 v U'.heap L ∧ FrameEnd U o U' L ({ frames := 3, cells := 0, slots := 0, locals := 36 } : Room).cells ({ frames := 3, cells := 0, slots := 0, locals := 36 } : Room).slots) := by
  refine MetFree.of_bodySF (plainFor_of_name pn3) hisR ?_
  intro p e s m args below meth c s₁ Bd hml0 hP hK
  obtain ⟨rfl, hZ, hh⟩ := hP
  have hx := Bd.exec
  have hby := Bd.bytes
  have hml : c.maxLocals = 1 := hml0
  have hown : s.vm.findClass "java/util/ImmutableCollections$AbstractImmutableList" = some m.cls := findClass_of_methodNamed Bd.named
  have hnm := (name_of_methodNamed Bd.named Bd.method).1
  have X0 : Stand p l e ({ frames := 3, cells := 0, slots := 0, locals := 36 } : Room) s m #[(.ref a)] below meth c s₁ [] 0 0 := Stand.of_body Bd
  have e0 : s₁.heap = h0 := by rw [← hh, Bd.state]; rfl
  have N0 := Fr.nil n0
  have K0 : Keep h0 h0 [] := Keep.refl _ _
  have pre0 : ∀ tgt, Steps p.tables e below (s₁.setTop (mkF m 0 #[.val (.ref a)] [])) tgt → Steps p.tables e below (s₁.setTop (entryFrame m #[(.ref a)] 1)) tgt := fun tgt kgo => castTop (ef_rmail m a) kgo
  obtain ⟨_, _, ⟨T1, L1, k1, n1⟩, -, X1, ⟨Lc1, hQ1, l1, y1, z1⟩, st1⟩ := X0.specialBack hx (y := (⟨"java/util/ImmutableCollections$AbstractImmutableCollection", "<init>", "()V"⟩ : MethodName)) rfl hown (mvT hZ (ow175 hw)) (mvT hZ (ow176 hw)) (mvT hZ (ow180 hw)) (by decide) (backOf (W := 0) (rmaic l Z a0 hw [] a  h0 n0 O0 ) hZ (ow180 hw) (ow179 hw) (by decide) (by decide)) (g := (mkF m 1 #[.val (.ref a)] [(.ref a)])) rfl (by rw [hml]; rfl) (Steps.refl _) (a := a) (argsL := []) (rest := []) (lenOf pd0 rfl) rfl (by show 2 * 0 + _ ≤ _; exact Nat.le_of_eq rfl) (hb hby d_jdk_46_method_1_code_1) (fun _ _ => ⟨rfl, e0, (by decide : 0 + 0 ≤ _), (by decide : 0 + 0 ≤ _)⟩)
  dsimp only [Pt.U, Pt.locs, Pt.cells, Pt.slots] at X1 l1 y1 z1 st1 hQ1
  subst l1 y1 z1
  obtain ⟨rfl, Nq1, eq1⟩ := hQ1
  have N2 := Fr.app N0 Nq1
  obtain ⟨fs, hretL, hrun, hended, hW, hsame⟩ := X1.leave (v := none) (fun _ => rfl)
  refine ⟨_, _, pre0 _ ?_, hrun, hended, _, _, rfl, ?_, ⟨_, rfl⟩, hW, hsame.mono (by decide) (by decide)⟩
  · refine XS.aloadN X0.here hx rfl (hb hby d_jdk_46_method_1_code_0) rfl rfl ?_
    show Steps p.tables e below (s₁.setTop (mkF m 1 #[.val (.ref a)] [(.ref a)])) _
    refine st1.trans ?_
    show Steps p.tables e below (T1.setTop (mkF m 4 #[.val (.ref a)] [])) _
    exact X1.returnOut hx Bd.returns (hb hby d_jdk_46_method_1_code_4) hretL
  · show Q_rmail Z a h0 n0 _ T1.heap _
    rw [eq1]
    exact ⟨rfl, N2, rfl⟩
theorem d_prog_45_method_1_code_0 : decode prog_45_method_1_code 0 = .ok (.aload_n 0, 1) := by decide +kernel
theorem d_prog_45_method_1_code_1 : decode prog_45_method_1_code 1 = .ok (.invokespecial 1, 3) := by decide +kernel
theorem d_prog_45_method_1_code_4 : decode prog_45_method_1_code 4 = .ok (.aload_n 0, 1) := by decide +kernel
theorem d_prog_45_method_1_code_5 : decode prog_45_method_1_code 5 = .ok (.aload_n 1, 1) := by decide +kernel
theorem d_prog_45_method_1_code_6 : decode prog_45_method_1_code 6 = .ok (.putfield 7, 3) := by decide +kernel
theorem d_prog_45_method_1_code_9 : decode prog_45_method_1_code 9 = .ok (.aload_n 0, 1) := by decide +kernel
theorem d_prog_45_method_1_code_10 : decode prog_45_method_1_code 10 = .ok (.aload_n 2, 1) := by decide +kernel
theorem d_prog_45_method_1_code_11 : decode prog_45_method_1_code 11 = .ok (.putfield 13, 3) := by decide +kernel
theorem d_prog_45_method_1_code_14 : decode prog_45_method_1_code 14 = .ok (.return_, 1) := by decide +kernel
def Q_rmspn (Z : State) (a : Addr) (h0 : Heap) (n0 : Nat) (v : Option Value) (h : Heap) (L : List Loc) : Prop := v = none ∧ Fr n0 L ∧ Keep h0 h [a]
theorem ef_rmspn (m : MethodId) (a : Addr) : entryFrame m #[(.ref a), .null, .null] 3 = mkF m 0 #[.val (.ref a), .val .null, .val .null] [] := by first | (simp [entryFrame, mkF, argsToLocals, Value.category]; done) | rfl
set_option maxRecDepth 65536 in
set_option maxHeartbeats 40000000 in
theorem rmspn (l : Launch) (Z : State) (a0 : Array Value) (hw : ∀ d ∈ tables_1, d.before a0 Z = true) (ws : List Jvm.Cond) (a : Addr) (h0 : Heap) (n0 : Nat) (O0 : Old Z n0 h0) (Ea : Exa Z h0 a "com/example/atropos/atropos/ops/Excess$Span") (F_start : Fld Z h0 a "com/example/atropos/atropos/ops/Excess$Span" "start" "Lcom/example/atropos/atropos/model/Rational;" .null) (F_end : Fld Z h0 a "com/example/atropos/atropos/ops/Excess$Span" "end" "Lcom/example/atropos/atropos/model/Rational;" .null) (ga : n0 ≤ a) :
    MetFree l (⟨"com/example/atropos/atropos/ops/Excess$Span", "<init>", "(Lcom/example/atropos/atropos/model/Rational;Lcom/example/atropos/atropos/model/Rational;)V"⟩ : MethodName) (head1 (Jvm.Cond.code (⟨"com/example/atropos/atropos/ops/Excess$Span", "<init>", "(Lcom/example/atropos/atropos/model/Rational;Lcom/example/atropos/atropos/model/Rational;)V"⟩ : MethodName) prog_45_method_1_code 3 none :: ws) ({ frames := 2, cells := 0, slots := 0, locals := 24 } : Room)) (fun aa U => aa = #[(.ref a), .null, .null] ∧ Z.Warmed39 U.vm ∧ U.heap = h0) (fun _ _ _ _ _ => True) (fun _ U o U' => ∃ v L, o = .returned v ∧ Q_rmspn Z a h0 n0 v U'.heap L ∧ FrameEnd U o U' L ({ frames := 2, cells := 0, slots := 0, locals := 24 } : Room).cells ({ frames := 2, cells := 0, slots := 0, locals := 24 } : Room).slots) := by
  refine MetFree.of_bodySF (plainFor_of_name pn4) hisR ?_
  intro p e s m args below meth c s₁ Bd hml0 hP hK
  obtain ⟨rfl, hZ, hh⟩ := hP
  have hx := Bd.exec
  have hby := Bd.bytes
  have hml : c.maxLocals = 3 := hml0
  have hown : s.vm.findClass "com/example/atropos/atropos/ops/Excess$Span" = some m.cls := findClass_of_methodNamed Bd.named
  have hnm := (name_of_methodNamed Bd.named Bd.method).1
  have X0 : Stand p l e ({ frames := 2, cells := 0, slots := 0, locals := 24 } : Room) s m #[(.ref a), .null, .null] below meth c s₁ [] 0 0 := Stand.of_body Bd
  have e0 : s₁.heap = h0 := by rw [← hh, Bd.state]; rfl
  have N0 := Fr.nil n0
  have K0 : Keep h0 h0 [a] := Keep.refl _ _
  have pre0 : ∀ tgt, Steps p.tables e below (s₁.setTop (mkF m 0 #[.val (.ref a), .val .null, .val .null] [])) tgt → Steps p.tables e below (s₁.setTop (entryFrame m #[(.ref a), .null, .null] 3)) tgt := fun tgt kgo => castTop (ef_rmspn m a) kgo
  obtain ⟨_, _, ⟨T1, L1, k1, n1⟩, -, X1, ⟨Lc1, hQ1, l1, y1, z1⟩, st1⟩ := X0.specialBack hx (y := (⟨"java/lang/Record", "<init>", "()V"⟩ : MethodName)) rfl hown (mvT hZ (ow6 hw)) (mvT hZ (ow7 hw)) (mvT hZ (ow10 hw)) (by decide) (backOf (W := 0) (rmrec l Z a0 hw [] a  h0 n0 O0 ) hZ (ow10 hw) (ow9 hw) (by decide) (by decide)) (g := (mkF m 1 #[.val (.ref a), .val .null, .val .null] [(.ref a)])) rfl (by rw [hml]; rfl) (Steps.refl _) (a := a) (argsL := []) (rest := []) (lenOf pd0 rfl) rfl (by show 2 * 0 + _ ≤ _; exact Nat.le_of_eq rfl) (hb hby d_prog_45_method_1_code_1) (fun _ _ => ⟨rfl, e0, (by decide : 0 + 0 ≤ _), (by decide : 0 + 0 ≤ _)⟩)
  dsimp only [Pt.U, Pt.locs, Pt.cells, Pt.slots] at X1 l1 y1 z1 st1 hQ1
  subst l1 y1 z1
  obtain ⟨rfl, Nq1, eq1⟩ := hQ1
  have N2 := Fr.app N0 Nq1
  obtain ⟨T3, h3, X3, e3, W3, st3⟩ := putF X1 hx hZ hown (host := "") (Or.inl (ow14 hw)) Via.refl eq1 F_start Ea (Or.inr ⟨(ow15 hw), rfl, hnm⟩) (ow1 hw) (ty := (.object "com/example/atropos/atropos/model/Rational")) (by decide) rfl rfl (g := (mkF m 6 #[.val (.ref a), .val .null, .val .null] [.null, (.ref a)])) rfl rfl (hb hby d_prog_45_method_1_code_6)
  have Fw3 := F_start.same W3
  have N4 := Fr.snoc X3 N2 ga
  have Ol4 := O0.wr W3 ga
  have K4 := K0.wr W3 (Or.inl (List.mem_of_getElem? (i := 0) rfl))
  have f5 := (Ea.wr W3)
  have f6 := (F_end.other W3 (Or.inr (slot_ne (Or.inr (ow17 hw)) (Or.inr (ow15 hw)) (by decide) (t := (.object "com/example/atropos/atropos/model/Rational")) (t' := (.object "com/example/atropos/atropos/model/Rational")) (by decide) (by decide))))
  obtain ⟨T7, h7, X7, e7, W7, st7⟩ := putF X3 hx hZ hown (host := "") (Or.inl (ow16 hw)) Via.refl e3 f6 f5 (Or.inr ⟨(ow17 hw), rfl, hnm⟩) (ow1 hw) (ty := (.object "com/example/atropos/atropos/model/Rational")) (by decide) rfl rfl (g := (mkF m 11 #[.val (.ref a), .val .null, .val .null] [.null, (.ref a)])) rfl rfl (hb hby d_prog_45_method_1_code_11)
  have Fw7 := f6.same W7
  have N8 := Fr.snoc X7 N4 ga
  have Ol8 := Ol4.wr W7 ga
  have K8 := K4.wr W7 (Or.inl (List.mem_of_getElem? (i := 0) rfl))
  obtain ⟨fs, hretL, hrun, hended, hW, hsame⟩ := X7.leave (v := none) (fun _ => rfl)
  refine ⟨_, _, pre0 _ ?_, hrun, hended, _, _, rfl, ?_, ⟨_, rfl⟩, hW, hsame.mono (by decide) (by decide)⟩
  · refine XS.aloadN X0.here hx rfl (hb hby d_prog_45_method_1_code_0) rfl rfl ?_
    show Steps p.tables e below (s₁.setTop (mkF m 1 #[.val (.ref a), .val .null, .val .null] [(.ref a)])) _
    refine st1.trans ?_
    show Steps p.tables e below (T1.setTop (mkF m 4 #[.val (.ref a), .val .null, .val .null] [])) _
    refine XS.aloadN X1.here hx rfl (hb hby d_prog_45_method_1_code_4) rfl rfl ?_
    show Steps p.tables e below (T1.setTop (mkF m 5 #[.val (.ref a), .val .null, .val .null] [(.ref a)])) _
    refine XS.aloadN X1.here hx rfl (hb hby d_prog_45_method_1_code_5) rfl rfl ?_
    show Steps p.tables e below (T1.setTop (mkF m 6 #[.val (.ref a), .val .null, .val .null] [.null, (.ref a)])) _
    refine st3 _ ?_
    show Steps p.tables e below (T3.setTop (mkF m 9 #[.val (.ref a), .val .null, .val .null] [])) _
    refine XS.aloadN X3.here hx rfl (hb hby d_prog_45_method_1_code_9) rfl rfl ?_
    show Steps p.tables e below (T3.setTop (mkF m 10 #[.val (.ref a), .val .null, .val .null] [(.ref a)])) _
    refine XS.aloadN X3.here hx rfl (hb hby d_prog_45_method_1_code_10) rfl rfl ?_
    show Steps p.tables e below (T3.setTop (mkF m 11 #[.val (.ref a), .val .null, .val .null] [.null, (.ref a)])) _
    refine st7 _ ?_
    show Steps p.tables e below (T7.setTop (mkF m 14 #[.val (.ref a), .val .null, .val .null] [])) _
    exact X7.returnOut hx Bd.returns (hb hby d_prog_45_method_1_code_14) hretL
  · show Q_rmspn Z a h0 n0 _ T7.heap _
    rw [e7]
    exact ⟨rfl, N8, K8⟩
theorem d_prog_44_method_1_code_0 : decode prog_44_method_1_code 0 = .ok (.aload_n 0, 1) := by decide +kernel
theorem d_prog_44_method_1_code_1 : decode prog_44_method_1_code 1 = .ok (.invokespecial 1, 3) := by decide +kernel
theorem d_prog_44_method_1_code_4 : decode prog_44_method_1_code 4 = .ok (.aload_n 0, 1) := by decide +kernel
theorem d_prog_44_method_1_code_5 : decode prog_44_method_1_code 5 = .ok (.aload_n 1, 1) := by decide +kernel
theorem d_prog_44_method_1_code_6 : decode prog_44_method_1_code 6 = .ok (.putfield 7, 3) := by decide +kernel
theorem d_prog_44_method_1_code_9 : decode prog_44_method_1_code 9 = .ok (.aload_n 0, 1) := by decide +kernel
theorem d_prog_44_method_1_code_10 : decode prog_44_method_1_code 10 = .ok (.aload_n 2, 1) := by decide +kernel
theorem d_prog_44_method_1_code_11 : decode prog_44_method_1_code 11 = .ok (.putfield 13, 3) := by decide +kernel
theorem d_prog_44_method_1_code_14 : decode prog_44_method_1_code 14 = .ok (.aload_n 0, 1) := by decide +kernel
theorem d_prog_44_method_1_code_15 : decode prog_44_method_1_code 15 = .ok (.aload_n 3, 1) := by decide +kernel
theorem d_prog_44_method_1_code_16 : decode prog_44_method_1_code 16 = .ok (.putfield 16, 3) := by decide +kernel
theorem d_prog_44_method_1_code_19 : decode prog_44_method_1_code 19 = .ok (.aload_n 0, 1) := by decide +kernel
theorem d_prog_44_method_1_code_20 : decode prog_44_method_1_code 20 = .ok (.aload 4, 2) := by decide +kernel
theorem d_prog_44_method_1_code_22 : decode prog_44_method_1_code 22 = .ok (.putfield 19, 3) := by decide +kernel
theorem d_prog_44_method_1_code_25 : decode prog_44_method_1_code 25 = .ok (.return_, 1) := by decide +kernel
def Q_rmrat (Z : State) (a : Addr) (h0 : Heap) (n0 : Nat) (v : Option Value) (h : Heap) (L : List Loc) : Prop := v = none ∧ Fr n0 L ∧ Keep h0 h [a]
theorem ef_rmrat (m : MethodId) (a : Addr) : entryFrame m #[(.ref a), .null, .null, .null, .null] 5 = mkF m 0 #[.val (.ref a), .val .null, .val .null, .val .null, .val .null] [] := by first | (simp [entryFrame, mkF, argsToLocals, Value.category]; done) | rfl
set_option maxRecDepth 65536 in
set_option maxHeartbeats 40000000 in
theorem rmrat (l : Launch) (Z : State) (a0 : Array Value) (hw : ∀ d ∈ tables_1, d.before a0 Z = true) (ws : List Jvm.Cond) (a : Addr) (h0 : Heap) (n0 : Nat) (O0 : Old Z n0 h0) (Ea : Exa Z h0 a "com/example/atropos/atropos/ops/Excess$Rate") (F_start : Fld Z h0 a "com/example/atropos/atropos/ops/Excess$Rate" "start" "Lcom/example/atropos/atropos/model/Rational;" .null) (F_end : Fld Z h0 a "com/example/atropos/atropos/ops/Excess$Rate" "end" "Lcom/example/atropos/atropos/model/Rational;" .null) (F_slope : Fld Z h0 a "com/example/atropos/atropos/ops/Excess$Rate" "slope" "Lcom/example/atropos/atropos/model/Rational;" .null) (F_bound : Fld Z h0 a "com/example/atropos/atropos/ops/Excess$Rate" "bound" "Lcom/example/atropos/atropos/model/Rational;" .null) (ga : n0 ≤ a) :
    MetFree l (⟨"com/example/atropos/atropos/ops/Excess$Rate", "<init>", "(Lcom/example/atropos/atropos/model/Rational;Lcom/example/atropos/atropos/model/Rational;Lcom/example/atropos/atropos/model/Rational;Lcom/example/atropos/atropos/model/Rational;)V"⟩ : MethodName) (head1 (Jvm.Cond.code (⟨"com/example/atropos/atropos/ops/Excess$Rate", "<init>", "(Lcom/example/atropos/atropos/model/Rational;Lcom/example/atropos/atropos/model/Rational;Lcom/example/atropos/atropos/model/Rational;Lcom/example/atropos/atropos/model/Rational;)V"⟩ : MethodName) prog_44_method_1_code 5 none :: ws) ({ frames := 2, cells := 0, slots := 0, locals := 24 } : Room)) (fun aa U => aa = #[(.ref a), .null, .null, .null, .null] ∧ Z.Warmed39 U.vm ∧ U.heap = h0) (fun _ _ _ _ _ => True) (fun _ U o U' => ∃ v L, o = .returned v ∧ Q_rmrat Z a h0 n0 v U'.heap L ∧ FrameEnd U o U' L ({ frames := 2, cells := 0, slots := 0, locals := 24 } : Room).cells ({ frames := 2, cells := 0, slots := 0, locals := 24 } : Room).slots) := by
  refine MetFree.of_bodySF (plainFor_of_name pn5) hisR ?_
  intro p e s m args below meth c s₁ Bd hml0 hP hK
  obtain ⟨rfl, hZ, hh⟩ := hP
  have hx := Bd.exec
  have hby := Bd.bytes
  have hml : c.maxLocals = 5 := hml0
  have hown : s.vm.findClass "com/example/atropos/atropos/ops/Excess$Rate" = some m.cls := findClass_of_methodNamed Bd.named
  have hnm := (name_of_methodNamed Bd.named Bd.method).1
  have X0 : Stand p l e ({ frames := 2, cells := 0, slots := 0, locals := 24 } : Room) s m #[(.ref a), .null, .null, .null, .null] below meth c s₁ [] 0 0 := Stand.of_body Bd
  have e0 : s₁.heap = h0 := by rw [← hh, Bd.state]; rfl
  have N0 := Fr.nil n0
  have K0 : Keep h0 h0 [a] := Keep.refl _ _
  have pre0 : ∀ tgt, Steps p.tables e below (s₁.setTop (mkF m 0 #[.val (.ref a), .val .null, .val .null, .val .null, .val .null] [])) tgt → Steps p.tables e below (s₁.setTop (entryFrame m #[(.ref a), .null, .null, .null, .null] 5)) tgt := fun tgt kgo => castTop (ef_rmrat m a) kgo
  obtain ⟨_, _, ⟨T1, L1, k1, n1⟩, -, X1, ⟨Lc1, hQ1, l1, y1, z1⟩, st1⟩ := X0.specialBack hx (y := (⟨"java/lang/Record", "<init>", "()V"⟩ : MethodName)) rfl hown (mvT hZ (ow24 hw)) (mvT hZ (ow7 hw)) (mvT hZ (ow10 hw)) (by decide) (backOf (W := 0) (rmrec l Z a0 hw [] a  h0 n0 O0 ) hZ (ow10 hw) (ow9 hw) (by decide) (by decide)) (g := (mkF m 1 #[.val (.ref a), .val .null, .val .null, .val .null, .val .null] [(.ref a)])) rfl (by rw [hml]; rfl) (Steps.refl _) (a := a) (argsL := []) (rest := []) (lenOf pd0 rfl) rfl (by show 2 * 0 + _ ≤ _; exact Nat.le_of_eq rfl) (hb hby d_prog_44_method_1_code_1) (fun _ _ => ⟨rfl, e0, (by decide : 0 + 0 ≤ _), (by decide : 0 + 0 ≤ _)⟩)
  dsimp only [Pt.U, Pt.locs, Pt.cells, Pt.slots] at X1 l1 y1 z1 st1 hQ1
  subst l1 y1 z1
  obtain ⟨rfl, Nq1, eq1⟩ := hQ1
  have N2 := Fr.app N0 Nq1
  obtain ⟨T3, h3, X3, e3, W3, st3⟩ := putF X1 hx hZ hown (host := "") (Or.inl (ow25 hw)) Via.refl eq1 F_start Ea (Or.inr ⟨(ow26 hw), rfl, hnm⟩) (ow19 hw) (ty := (.object "com/example/atropos/atropos/model/Rational")) (by decide) rfl rfl (g := (mkF m 6 #[.val (.ref a), .val .null, .val .null, .val .null, .val .null] [.null, (.ref a)])) rfl rfl (hb hby d_prog_44_method_1_code_6)
  have Fw3 := F_start.same W3
  have N4 := Fr.snoc X3 N2 ga
  have Ol4 := O0.wr W3 ga
  have K4 := K0.wr W3 (Or.inl (List.mem_of_getElem? (i := 0) rfl))
  have f5 := (Ea.wr W3)
  have f6 := (F_end.other W3 (Or.inr (slot_ne (Or.inr (ow28 hw)) (Or.inr (ow26 hw)) (by decide) (t := (.object "com/example/atropos/atropos/model/Rational")) (t' := (.object "com/example/atropos/atropos/model/Rational")) (by decide) (by decide))))
  obtain ⟨T7, h7, X7, e7, W7, st7⟩ := putF X3 hx hZ hown (host := "") (Or.inl (ow27 hw)) Via.refl e3 f6 f5 (Or.inr ⟨(ow28 hw), rfl, hnm⟩) (ow19 hw) (ty := (.object "com/example/atropos/atropos/model/Rational")) (by decide) rfl rfl (g := (mkF m 11 #[.val (.ref a), .val .null, .val .null, .val .null, .val .null] [.null, (.ref a)])) rfl rfl (hb hby d_prog_44_method_1_code_11)
  have Fw7 := f6.same W7
  have N8 := Fr.snoc X7 N4 ga
  have Ol8 := Ol4.wr W7 ga
  have K8 := K4.wr W7 (Or.inl (List.mem_of_getElem? (i := 0) rfl))
  have f9 := (f5.wr W7)
  have f10 := ((F_slope.other W3 (Or.inr (slot_ne (Or.inr (ow30 hw)) (Or.inr (ow26 hw)) (by decide) (t := (.object "com/example/atropos/atropos/model/Rational")) (t' := (.object "com/example/atropos/atropos/model/Rational")) (by decide) (by decide)))).other W7 (Or.inr (slot_ne (Or.inr (ow30 hw)) (Or.inr (ow28 hw)) (by decide) (t := (.object "com/example/atropos/atropos/model/Rational")) (t' := (.object "com/example/atropos/atropos/model/Rational")) (by decide) (by decide))))
  obtain ⟨T11, h11, X11, e11, W11, st11⟩ := putF X7 hx hZ hown (host := "") (Or.inl (ow29 hw)) Via.refl e7 f10 f9 (Or.inr ⟨(ow30 hw), rfl, hnm⟩) (ow19 hw) (ty := (.object "com/example/atropos/atropos/model/Rational")) (by decide) rfl rfl (g := (mkF m 16 #[.val (.ref a), .val .null, .val .null, .val .null, .val .null] [.null, (.ref a)])) rfl rfl (hb hby d_prog_44_method_1_code_16)
  have Fw11 := f10.same W11
  have N12 := Fr.snoc X11 N8 ga
  have Ol12 := Ol8.wr W11 ga
  have K12 := K8.wr W11 (Or.inl (List.mem_of_getElem? (i := 0) rfl))
  have f13 := (f9.wr W11)
  have f14 := (((F_bound.other W3 (Or.inr (slot_ne (Or.inr (ow32 hw)) (Or.inr (ow26 hw)) (by decide) (t := (.object "com/example/atropos/atropos/model/Rational")) (t' := (.object "com/example/atropos/atropos/model/Rational")) (by decide) (by decide)))).other W7 (Or.inr (slot_ne (Or.inr (ow32 hw)) (Or.inr (ow28 hw)) (by decide) (t := (.object "com/example/atropos/atropos/model/Rational")) (t' := (.object "com/example/atropos/atropos/model/Rational")) (by decide) (by decide)))).other W11 (Or.inr (slot_ne (Or.inr (ow32 hw)) (Or.inr (ow30 hw)) (by decide) (t := (.object "com/example/atropos/atropos/model/Rational")) (t' := (.object "com/example/atropos/atropos/model/Rational")) (by decide) (by decide))))
  obtain ⟨T15, h15, X15, e15, W15, st15⟩ := putF X11 hx hZ hown (host := "") (Or.inl (ow31 hw)) Via.refl e11 f14 f13 (Or.inr ⟨(ow32 hw), rfl, hnm⟩) (ow19 hw) (ty := (.object "com/example/atropos/atropos/model/Rational")) (by decide) rfl rfl (g := (mkF m 22 #[.val (.ref a), .val .null, .val .null, .val .null, .val .null] [.null, (.ref a)])) rfl rfl (hb hby d_prog_44_method_1_code_22)
  have Fw15 := f14.same W15
  have N16 := Fr.snoc X15 N12 ga
  have Ol16 := Ol12.wr W15 ga
  have K16 := K12.wr W15 (Or.inl (List.mem_of_getElem? (i := 0) rfl))
  obtain ⟨fs, hretL, hrun, hended, hW, hsame⟩ := X15.leave (v := none) (fun _ => rfl)
  refine ⟨_, _, pre0 _ ?_, hrun, hended, _, _, rfl, ?_, ⟨_, rfl⟩, hW, hsame.mono (by decide) (by decide)⟩
  · refine XS.aloadN X0.here hx rfl (hb hby d_prog_44_method_1_code_0) rfl rfl ?_
    show Steps p.tables e below (s₁.setTop (mkF m 1 #[.val (.ref a), .val .null, .val .null, .val .null, .val .null] [(.ref a)])) _
    refine st1.trans ?_
    show Steps p.tables e below (T1.setTop (mkF m 4 #[.val (.ref a), .val .null, .val .null, .val .null, .val .null] [])) _
    refine XS.aloadN X1.here hx rfl (hb hby d_prog_44_method_1_code_4) rfl rfl ?_
    show Steps p.tables e below (T1.setTop (mkF m 5 #[.val (.ref a), .val .null, .val .null, .val .null, .val .null] [(.ref a)])) _
    refine XS.aloadN X1.here hx rfl (hb hby d_prog_44_method_1_code_5) rfl rfl ?_
    show Steps p.tables e below (T1.setTop (mkF m 6 #[.val (.ref a), .val .null, .val .null, .val .null, .val .null] [.null, (.ref a)])) _
    refine st3 _ ?_
    show Steps p.tables e below (T3.setTop (mkF m 9 #[.val (.ref a), .val .null, .val .null, .val .null, .val .null] [])) _
    refine XS.aloadN X3.here hx rfl (hb hby d_prog_44_method_1_code_9) rfl rfl ?_
    show Steps p.tables e below (T3.setTop (mkF m 10 #[.val (.ref a), .val .null, .val .null, .val .null, .val .null] [(.ref a)])) _
    refine XS.aloadN X3.here hx rfl (hb hby d_prog_44_method_1_code_10) rfl rfl ?_
    show Steps p.tables e below (T3.setTop (mkF m 11 #[.val (.ref a), .val .null, .val .null, .val .null, .val .null] [.null, (.ref a)])) _
    refine st7 _ ?_
    show Steps p.tables e below (T7.setTop (mkF m 14 #[.val (.ref a), .val .null, .val .null, .val .null, .val .null] [])) _
    refine XS.aloadN X7.here hx rfl (hb hby d_prog_44_method_1_code_14) rfl rfl ?_
    show Steps p.tables e below (T7.setTop (mkF m 15 #[.val (.ref a), .val .null, .val .null, .val .null, .val .null] [(.ref a)])) _
    refine XS.aloadN X7.here hx rfl (hb hby d_prog_44_method_1_code_15) rfl rfl ?_
    show Steps p.tables e below (T7.setTop (mkF m 16 #[.val (.ref a), .val .null, .val .null, .val .null, .val .null] [.null, (.ref a)])) _
    refine st11 _ ?_
    show Steps p.tables e below (T11.setTop (mkF m 19 #[.val (.ref a), .val .null, .val .null, .val .null, .val .null] [])) _
    refine XS.aloadN X11.here hx rfl (hb hby d_prog_44_method_1_code_19) rfl rfl ?_
    show Steps p.tables e below (T11.setTop (mkF m 20 #[.val (.ref a), .val .null, .val .null, .val .null, .val .null] [(.ref a)])) _
    refine XS.aload X11.here hx rfl (hb hby d_prog_44_method_1_code_20) rfl rfl ?_
    show Steps p.tables e below (T11.setTop (mkF m 22 #[.val (.ref a), .val .null, .val .null, .val .null, .val .null] [.null, (.ref a)])) _
    refine st15 _ ?_
    show Steps p.tables e below (T15.setTop (mkF m 25 #[.val (.ref a), .val .null, .val .null, .val .null, .val .null] [])) _
    exact X15.returnOut hx Bd.returns (hb hby d_prog_44_method_1_code_25) hretL
  · show Q_rmrat Z a h0 n0 _ T15.heap _
    rw [e15]
    exact ⟨rfl, N16, K16⟩
theorem d_jdk_39_method_1_code_0 : decode jdk_39_method_1_code 0 = .ok (.aload_n 0, 1) := by decide +kernel
theorem d_jdk_39_method_1_code_1 : decode jdk_39_method_1_code 1 = .ok (.invokespecial 1, 3) := by decide +kernel
theorem d_jdk_39_method_1_code_4 : decode jdk_39_method_1_code 4 = .ok (.aload_n 0, 1) := by decide +kernel
theorem d_jdk_39_method_1_code_5 : decode jdk_39_method_1_code 5 = .ok (.iconst 0, 1) := by decide +kernel
theorem d_jdk_39_method_1_code_6 : decode jdk_39_method_1_code 6 = .ok (.putfield 7, 3) := by decide +kernel
theorem d_jdk_39_method_1_code_9 : decode jdk_39_method_1_code 9 = .ok (.return_, 1) := by decide +kernel
def Q_rmabl (Z : State) (a : Addr) (h0 : Heap) (n0 : Nat) (v : Option Value) (h : Heap) (L : List Loc) : Prop := v = none ∧ Fr n0 L ∧ Keep h0 h [a] ∧ Fld Z h a "java/util/AbstractList" "modCount" "I" (.int (0 : Int32)) ∧ Fld Z h a "java/util/ArrayList" "size" "I" (.int (0 : Int32)) ∧ Fld Z h a "java/util/ArrayList" "elementData" "[Ljava/lang/Object;" .null
theorem ef_rmabl (m : MethodId) (a : Addr) : entryFrame m #[(.ref a)] 1 = mkF m 0 #[.val (.ref a)] [] := by first | (simp [entryFrame, mkF, argsToLocals, Value.category]; done) | rfl
set_option maxRecDepth 65536 in
set_option maxHeartbeats 40000000 in
theorem rmabl (l : Launch) (Z : State) (a0 : Array Value) (hw : ∀ d ∈ tables_1, d.before a0 Z = true) (ws : List Jvm.Cond) (a : Addr) (h0 : Heap) (n0 : Nat) (O0 : Old Z n0 h0) (Ea : Exa Z h0 a "java/util/ArrayList") (Fm : Fld Z h0 a "java/util/AbstractList" "modCount" "I" (.int (0 : Int32))) (Fs : Fld Z h0 a "java/util/ArrayList" "size" "I" (.int (0 : Int32))) (Fe : Fld Z h0 a "java/util/ArrayList" "elementData" "[Ljava/lang/Object;" .null) (ga : n0 ≤ a) :
    MetFree l (⟨"java/util/AbstractList", "<init>", "()V"⟩ : MethodName) (head1 (Jvm.Cond.code (⟨"java/util/AbstractList", "<init>", "()V"⟩ : MethodName) jdk_39_method_1_code 1 none :: ws) ({ frames := 2, cells := 0, slots := 0, locals := 24 } : Room)) (fun aa U => aa = #[(.ref a)] ∧ Z.Warmed39 U.vm ∧ U.heap = h0) (fun _ _ _ _ _ => True) (fun _ U o U' => ∃ v L, o = .returned v ∧ Q_rmabl Z a h0 n0 v U'.heap L ∧ FrameEnd U o U' L ({ frames := 2, cells := 0, slots := 0, locals := 24 } : Room).cells ({ frames := 2, cells := 0, slots := 0, locals := 24 } : Room).slots) := by
  refine MetFree.of_bodySF (plainFor_of_name pn6) hisR ?_
  intro p e s m args below meth c s₁ Bd hml0 hP hK
  obtain ⟨rfl, hZ, hh⟩ := hP
  have hx := Bd.exec
  have hby := Bd.bytes
  have hml : c.maxLocals = 1 := hml0
  have hown : s.vm.findClass "java/util/AbstractList" = some m.cls := findClass_of_methodNamed Bd.named
  have hnm := (name_of_methodNamed Bd.named Bd.method).1
  have X0 : Stand p l e ({ frames := 2, cells := 0, slots := 0, locals := 24 } : Room) s m #[(.ref a)] below meth c s₁ [] 0 0 := Stand.of_body Bd
  have e0 : s₁.heap = h0 := by rw [← hh, Bd.state]; rfl
  have N0 := Fr.nil n0
  have K0 : Keep h0 h0 [a] := Keep.refl _ _
  have pre0 : ∀ tgt, Steps p.tables e below (s₁.setTop (mkF m 0 #[.val (.ref a)] [])) tgt → Steps p.tables e below (s₁.setTop (entryFrame m #[(.ref a)] 1)) tgt := fun tgt kgo => castTop (ef_rmabl m a) kgo
  obtain ⟨_, _, ⟨T1, L1, k1, n1⟩, -, X1, ⟨Lc1, hQ1, l1, y1, z1⟩, st1⟩ := X0.specialBack hx (y := (⟨"java/util/AbstractCollection", "<init>", "()V"⟩ : MethodName)) rfl hown (mvT hZ (ow45 hw)) (mvT hZ (ow46 hw)) (mvT hZ (ow50 hw)) (by decide) (backOf (W := 0) (rmaco l Z a0 hw [] a  h0 n0 O0 ) hZ (ow50 hw) (ow49 hw) (by decide) (by decide)) (g := (mkF m 1 #[.val (.ref a)] [(.ref a)])) rfl (by rw [hml]; rfl) (Steps.refl _) (a := a) (argsL := []) (rest := []) (lenOf pd0 rfl) rfl (by show 2 * 0 + _ ≤ _; exact Nat.le_of_eq rfl) (hb hby d_jdk_39_method_1_code_1) (fun _ _ => ⟨rfl, e0, (by decide : 0 + 0 ≤ _), (by decide : 0 + 0 ≤ _)⟩)
  dsimp only [Pt.U, Pt.locs, Pt.cells, Pt.slots] at X1 l1 y1 z1 st1 hQ1
  subst l1 y1 z1
  obtain ⟨rfl, Nq1, eq1⟩ := hQ1
  have N2 := Fr.app N0 Nq1
  obtain ⟨T3, h3, X3, e3, W3, st3⟩ := putF X1 hx hZ hown (host := "") (Or.inl (ow52 hw)) Via.refl eq1 Fm Ea (Or.inl (ow53 hw)) (ow34 hw) (ty := .int) (by decide) rfl rfl (g := (mkF m 6 #[.val (.ref a)] [(.int (0 : Int32)), (.ref a)])) rfl rfl (hb hby d_jdk_39_method_1_code_6)
  have Fw3 := Fm.same W3
  have N4 := Fr.snoc X3 N2 ga
  have Ol4 := O0.wr W3 ga
  have K4 := K0.wr W3 (Or.inl (List.mem_of_getElem? (i := 0) rfl))
  have f5 := (Fs.other W3 (Or.inr (slot_ne (Or.inl (ow65 hw)) (Or.inl (ow53 hw)) (by decide) (t := .int) (t' := .int) (by decide) (by decide))))
  have f6 := (Fe.other W3 (Or.inr (slot_ne (Or.inl (ow56 hw)) (Or.inl (ow53 hw)) (by decide) (t := (.array (.object "java/lang/Object"))) (t' := .int) (by decide) (by decide))))
  obtain ⟨fs, hretL, hrun, hended, hW, hsame⟩ := X3.leave (v := none) (fun _ => rfl)
  refine ⟨_, _, pre0 _ ?_, hrun, hended, _, _, rfl, ?_, ⟨_, rfl⟩, hW, hsame.mono (by decide) (by decide)⟩
  · refine XS.aloadN X0.here hx rfl (hb hby d_jdk_39_method_1_code_0) rfl rfl ?_
    show Steps p.tables e below (s₁.setTop (mkF m 1 #[.val (.ref a)] [(.ref a)])) _
    refine st1.trans ?_
    show Steps p.tables e below (T1.setTop (mkF m 4 #[.val (.ref a)] [])) _
    refine XS.aloadN X1.here hx rfl (hb hby d_jdk_39_method_1_code_4) rfl rfl ?_
    show Steps p.tables e below (T1.setTop (mkF m 5 #[.val (.ref a)] [(.ref a)])) _
    refine XS.iconst X1.here hx rfl (hb hby d_jdk_39_method_1_code_5) ?_
    show Steps p.tables e below (T1.setTop (mkF m 6 #[.val (.ref a)] [(.int (0 : Int32)), (.ref a)])) _
    refine st3 _ ?_
    show Steps p.tables e below (T3.setTop (mkF m 9 #[.val (.ref a)] [])) _
    exact X3.returnOut hx Bd.returns (hb hby d_jdk_39_method_1_code_9) hretL
  · show Q_rmabl Z a h0 n0 _ T3.heap _
    rw [e3]
    exact ⟨rfl, N4, K4, Fw3, f5, f6⟩
theorem d_jdk_38_method_2_code_0 : decode jdk_38_method_2_code 0 = .ok (.aload_n 0, 1) := by decide +kernel
theorem d_jdk_38_method_2_code_1 : decode jdk_38_method_2_code 1 = .ok (.invokespecial 1, 3) := by decide +kernel
theorem d_jdk_38_method_2_code_4 : decode jdk_38_method_2_code 4 = .ok (.aload_n 0, 1) := by decide +kernel
theorem d_jdk_38_method_2_code_5 : decode jdk_38_method_2_code 5 = .ok (.getstatic 39, 3) := by decide +kernel
theorem d_jdk_38_method_2_code_8 : decode jdk_38_method_2_code 8 = .ok (.putfield 9, 3) := by decide +kernel
theorem d_jdk_38_method_2_code_11 : decode jdk_38_method_2_code 11 = .ok (.return_, 1) := by decide +kernel
def Q_rmali (Z : State) (a : Addr) (de : Addr) (h0 : Heap) (n0 : Nat) (v : Option Value) (h : Heap) (L : List Loc) : Prop := v = none ∧ Fr n0 L ∧ Keep h0 h [a] ∧ Fld Z h a "java/util/AbstractList" "modCount" "I" (.int (0 : Int32)) ∧ Fld Z h a "java/util/ArrayList" "size" "I" (.int (0 : Int32)) ∧ Fld Z h a "java/util/ArrayList" "elementData" "[Ljava/lang/Object;" (.ref de)
theorem ef_rmali (m : MethodId) (a : Addr) : entryFrame m #[(.ref a)] 1 = mkF m 0 #[.val (.ref a)] [] := by first | (simp [entryFrame, mkF, argsToLocals, Value.category]; done) | rfl
set_option maxRecDepth 65536 in
set_option maxHeartbeats 40000000 in
theorem rmali (l : Launch) (Z : State) (a0 : Array Value) (hw : ∀ d ∈ tables_1, d.before a0 Z = true) (ws : List Jvm.Cond) (a : Addr) (de : Addr) (h0 : Heap) (n0 : Nat) (O0 : Old Z n0 h0) (Sde : Sta Z Z.heap "java/util/ArrayList" "DEFAULTCAPACITY_EMPTY_ELEMENTDATA" "[Ljava/lang/Object;" (.ref de)) (Ea : Exa Z h0 a "java/util/ArrayList") (Fm : Fld Z h0 a "java/util/AbstractList" "modCount" "I" (.int (0 : Int32))) (Fs : Fld Z h0 a "java/util/ArrayList" "size" "I" (.int (0 : Int32))) (Fe : Fld Z h0 a "java/util/ArrayList" "elementData" "[Ljava/lang/Object;" .null) (ga : n0 ≤ a) :
    MetFree l (⟨"java/util/ArrayList", "<init>", "()V"⟩ : MethodName) (head1 (Jvm.Cond.code (⟨"java/util/ArrayList", "<init>", "()V"⟩ : MethodName) jdk_38_method_2_code 1 none :: ws) ({ frames := 3, cells := 0, slots := 0, locals := 36 } : Room)) (fun aa U => aa = #[(.ref a)] ∧ Z.Warmed39 U.vm ∧ U.heap = h0) (fun _ _ _ _ _ => True) (fun _ U o U' => ∃ v L, o = .returned v ∧ Q_rmali Z a de h0 n0 v U'.heap L ∧ FrameEnd U o U' L ({ frames := 3, cells := 0, slots := 0, locals := 36 } : Room).cells ({ frames := 3, cells := 0, slots := 0, locals := 36 } : Room).slots) := by
  refine MetFree.of_bodySF (plainFor_of_name pn7) hisR ?_
  intro p e s m args below meth c s₁ Bd hml0 hP hK
  obtain ⟨rfl, hZ, hh⟩ := hP
  have hx := Bd.exec
  have hby := Bd.bytes
  have hml : c.maxLocals = 1 := hml0
  have hown : s.vm.findClass "java/util/ArrayList" = some m.cls := findClass_of_methodNamed Bd.named
  have hnm := (name_of_methodNamed Bd.named Bd.method).1
  have X0 : Stand p l e ({ frames := 3, cells := 0, slots := 0, locals := 36 } : Room) s m #[(.ref a)] below meth c s₁ [] 0 0 := Stand.of_body Bd
  have e0 : s₁.heap = h0 := by rw [← hh, Bd.state]; rfl
  have N0 := Fr.nil n0
  have K0 : Keep h0 h0 [a] := Keep.refl _ _
  have pre0 : ∀ tgt, Steps p.tables e below (s₁.setTop (mkF m 0 #[.val (.ref a)] [])) tgt → Steps p.tables e below (s₁.setTop (entryFrame m #[(.ref a)] 1)) tgt := fun tgt kgo => castTop (ef_rmali m a) kgo
  obtain ⟨_, _, ⟨T1, L1, k1, n1⟩, -, X1, ⟨Lc1, hQ1, l1, y1, z1⟩, st1⟩ := X0.specialBack hx (y := (⟨"java/util/AbstractList", "<init>", "()V"⟩ : MethodName)) rfl hown (mvT hZ (ow39 hw)) (mvT hZ (ow40 hw)) (mvT hZ (ow44 hw)) (by decide) (backOf (W := 0) (rmabl l Z a0 hw [] a  h0 n0 O0 Ea Fm Fs Fe ga) hZ (ow44 hw) (ow43 hw) (by decide) (by decide)) (g := (mkF m 1 #[.val (.ref a)] [(.ref a)])) rfl (by rw [hml]; rfl) (Steps.refl _) (a := a) (argsL := []) (rest := []) (lenOf pd0 rfl) rfl (by show 2 * 0 + _ ≤ _; exact Nat.le_of_eq rfl) (hb hby d_jdk_38_method_2_code_1) (fun _ _ => ⟨rfl, e0, (by decide : 0 + 0 ≤ _), (by decide : 0 + 0 ≤ _)⟩)
  dsimp only [Pt.U, Pt.locs, Pt.cells, Pt.slots] at X1 l1 y1 z1 st1 hQ1
  subst l1 y1 z1
  obtain ⟨rfl, Nq1, kp1, gm1, gs1, ge1⟩ := hQ1
  have N2 := Fr.app N0 Nq1
  have Ol3 := O0.keep kp1 (allS ga all0)
  have K3 := K0.trans kp1 (allS (Or.inl (List.mem_of_getElem? (i := 0) rfl)) all0)
  obtain ⟨T4, X4, e4, st4⟩ := getS2 X1 hx hZ hown (host := "") (Or.inl (ow54 hw)) Via.refl rfl (Sde.ext Ol3.2) (g := (mkF m 5 #[.val (.ref a)] [(.ref a)])) rfl (hb hby d_jdk_38_method_2_code_5)
  have f5 := (Ea.keep kp1)
  obtain ⟨T6, h6, X6, e6, W6, st6⟩ := putF X4 hx hZ hown (host := "") (Or.inl (ow55 hw)) Via.refl e4 ge1 f5 (Or.inl (ow56 hw)) (ow34 hw) (ty := (.array (.object "java/lang/Object"))) (by decide) rfl rfl (g := (mkF m 8 #[.val (.ref a)] [(.ref de), (.ref a)])) rfl rfl (hb hby d_jdk_38_method_2_code_8)
  have Fw6 := ge1.same W6
  have N7 := Fr.snoc X6 N2 ga
  have Ol7 := Ol3.wr W6 ga
  have K7 := K3.wr W6 (Or.inl (List.mem_of_getElem? (i := 0) rfl))
  have f8 := (gm1.other W6 (Or.inr (slot_ne (Or.inl (ow53 hw)) (Or.inl (ow56 hw)) (by decide) (t := .int) (t' := (.array (.object "java/lang/Object"))) (by decide) (by decide))))
  have f9 := (gs1.other W6 (Or.inr (slot_ne (Or.inl (ow65 hw)) (Or.inl (ow56 hw)) (by decide) (t := .int) (t' := (.array (.object "java/lang/Object"))) (by decide) (by decide))))
  obtain ⟨fs, hretL, hrun, hended, hW, hsame⟩ := X6.leave (v := none) (fun _ => rfl)
  refine ⟨_, _, pre0 _ ?_, hrun, hended, _, _, rfl, ?_, ⟨_, rfl⟩, hW, hsame.mono (by decide) (by decide)⟩
  · refine XS.aloadN X0.here hx rfl (hb hby d_jdk_38_method_2_code_0) rfl rfl ?_
    show Steps p.tables e below (s₁.setTop (mkF m 1 #[.val (.ref a)] [(.ref a)])) _
    refine st1.trans ?_
    show Steps p.tables e below (T1.setTop (mkF m 4 #[.val (.ref a)] [])) _
    refine XS.aloadN X1.here hx rfl (hb hby d_jdk_38_method_2_code_4) rfl rfl ?_
    show Steps p.tables e below (T1.setTop (mkF m 5 #[.val (.ref a)] [(.ref a)])) _
    refine st4 _ ?_
    show Steps p.tables e below (T4.setTop (mkF m 8 #[.val (.ref a)] [(.ref de), (.ref a)])) _
    refine st6 _ ?_
    show Steps p.tables e below (T6.setTop (mkF m 11 #[.val (.ref a)] [])) _
    exact X6.returnOut hx Bd.returns (hb hby d_jdk_38_method_2_code_11) hretL
  · show Q_rmali Z a de h0 n0 _ T6.heap _
    rw [e6]
    exact ⟨rfl, N7, K7, f8, f9, Fw6⟩
def mx (a b : Int32) : Int32 := if a < b then b else a
def mi (a b : Int32) : Int32 := if b < a then b else a
theorem d_jdk_29_method_65_code_0 : decode jdk_29_method_65_code 0 = .ok (.iload_n 0, 1) := by decide +kernel
theorem d_jdk_29_method_65_code_1 : decode jdk_29_method_65_code 1 = .ok (.iload_n 1, 1) := by decide +kernel
theorem d_jdk_29_method_65_code_2 : decode jdk_29_method_65_code 2 = .ok (.if_icmp .lt 7, 3) := by decide +kernel
theorem d_jdk_29_method_65_code_5 : decode jdk_29_method_65_code 5 = .ok (.iload_n 0, 1) := by decide +kernel
theorem d_jdk_29_method_65_code_6 : decode jdk_29_method_65_code 6 = .ok (.goto 4, 3) := by decide +kernel
theorem d_jdk_29_method_65_code_9 : decode jdk_29_method_65_code 9 = .ok (.iload_n 1, 1) := by decide +kernel
theorem d_jdk_29_method_65_code_10 : decode jdk_29_method_65_code 10 = .ok (.ireturn, 1) := by decide +kernel
def Q_rmmax (Z : State) (xa : Int32) (xb : Int32) (h0 : Heap) (n0 : Nat) (v : Option Value) (h : Heap) (L : List Loc) : Prop := v = some (.int (mx xa xb)) ∧ Fr n0 L ∧ h = h0
theorem ef_rmmax (m : MethodId) (xa : Int32) (xb : Int32) : entryFrame m #[(.int xa), (.int xb)] 2 = mkF m 0 #[.val (.int xa), .val (.int xb)] [] := by first | (simp [entryFrame, mkF, argsToLocals, Value.category]; done) | rfl
set_option maxRecDepth 65536 in
set_option maxHeartbeats 40000000 in
theorem rmmax (l : Launch) (Z : State) (a0 : Array Value) (hw : ∀ d ∈ tables_1, d.before a0 Z = true) (ws : List Jvm.Cond) (xa : Int32) (xb : Int32) (h0 : Heap) (n0 : Nat) (O0 : Old Z n0 h0) :
    MetFree l (⟨"java/lang/Math", "max", "(II)I"⟩ : MethodName) (head1 (Jvm.Cond.code (⟨"java/lang/Math", "max", "(II)I"⟩ : MethodName) jdk_29_method_65_code 2 (some .int) :: ws) ({ frames := 0, cells := 0, slots := 0, locals := 0 } : Room)) (fun aa U => aa = #[(.int xa), (.int xb)] ∧ Z.Warmed39 U.vm ∧ U.heap = h0) (fun _ _ _ _ _ => True) (fun _ U o U' => ∃ v L, o = .returned v ∧ Q_rmmax Z xa xb h0 n0 v U'.heap L ∧ FrameEnd U o U' L ({ frames := 0, cells := 0, slots := 0, locals := 0 } : Room).cells ({ frames := 0, cells := 0, slots := 0, locals := 0 } : Room).slots) := by
  refine MetFree.of_bodySF (Jvm.Free.JP.mathPlain rfl (by decide +kernel)) hisR ?_
  intro p e s m args below meth c s₁ Bd hml0 hP hK
  obtain ⟨rfl, hZ, hh⟩ := hP
  have hx := Bd.exec
  have hby := Bd.bytes
  have hml : c.maxLocals = 2 := hml0
  have hown : s.vm.findClass "java/lang/Math" = some m.cls := findClass_of_methodNamed Bd.named
  have hnm := (name_of_methodNamed Bd.named Bd.method).1
  have X0 : Stand p l e ({ frames := 0, cells := 0, slots := 0, locals := 0 } : Room) s m #[(.int xa), (.int xb)] below meth c s₁ [] 0 0 := Stand.of_body Bd
  have e0 : s₁.heap = h0 := by rw [← hh, Bd.state]; rfl
  have N0 := Fr.nil n0
  have K0 : Keep h0 h0 [] := Keep.refl _ _
  have pre0 : ∀ tgt, Steps p.tables e below (s₁.setTop (mkF m 0 #[.val (.int xa), .val (.int xb)] [])) tgt → Steps p.tables e below (s₁.setTop (entryFrame m #[(.int xa), (.int xb)] 2)) tgt := fun tgt kgo => castTop (ef_rmmax m xa xb) kgo
  have pre1 : ∀ tgt, Steps p.tables e below (s₁.setTop (mkF m 2 #[.val (.int xa), .val (.int xb)] [(.int xb), (.int xa)])) tgt → Steps p.tables e below (s₁.setTop (entryFrame m #[(.int xa), (.int xb)] 2)) tgt := by
    intro tgt kgo
    refine pre0 _ ?_
    refine XS.iloadN X0.here hx rfl (hb hby d_jdk_29_method_65_code_0) rfl ?_
    show Steps p.tables e below (s₁.setTop (mkF m 1 #[.val (.int xa), .val (.int xb)] [(.int xa)])) _
    refine XS.iloadN X0.here hx rfl (hb hby d_jdk_29_method_65_code_1) rfl ?_
    show Steps p.tables e below (s₁.setTop (mkF m 2 #[.val (.int xa), .val (.int xb)] [(.int xb), (.int xa)])) _
    exact kgo
  by_cases hc2_2 : xa < xb
  · obtain ⟨fs, hretL, hrun, hended, hW, hsame⟩ := X0.leave (v := some (.int xb)) (fun h => by rw [Bd.returns] at h; cases h)
    refine ⟨_, _, pre1 _ ?_, hrun, hended, _, _, rfl, ?_, ⟨_, rfl⟩, hW, hsame.mono (by decide) (by decide)⟩
    · refine XS.icmpYes X0.here hx rfl (pc0 := 2) (pc' := 9) rfl (hb hby d_jdk_29_method_65_code_2) rfl (tlt hc2_2).1 (by decide) (by decide) ?_
      show Steps p.tables e below (s₁.setTop (mkF m 9 #[.val (.int xa), .val (.int xb)] [])) _
      refine XS.iloadN X0.here hx rfl (hb hby d_jdk_29_method_65_code_9) rfl ?_
      show Steps p.tables e below (s₁.setTop (mkF m 10 #[.val (.int xa), .val (.int xb)] [(.int xb)])) _
      exact retOut X0 hx Bd.returns rfl (Or.inl ⟨rfl, Or.inl rfl, _, rfl⟩) (hb hby d_jdk_29_method_65_code_10) hretL
    · show Q_rmmax Z xa xb h0 n0 _ s₁.heap _
      rw [e0]
      exact ⟨by simp only [mx, if_pos hc2_2], N0, rfl⟩
  · obtain ⟨fs, hretL, hrun, hended, hW, hsame⟩ := X0.leave (v := some (.int xa)) (fun h => by rw [Bd.returns] at h; cases h)
    refine ⟨_, _, pre1 _ ?_, hrun, hended, _, _, rfl, ?_, ⟨_, rfl⟩, hW, hsame.mono (by decide) (by decide)⟩
    · refine XS.icmpNo X0.here hx rfl (hb hby d_jdk_29_method_65_code_2) rfl (flt hc2_2).1 ?_
      show Steps p.tables e below (s₁.setTop (mkF m 5 #[.val (.int xa), .val (.int xb)] [])) _
      refine XS.iloadN X0.here hx rfl (hb hby d_jdk_29_method_65_code_5) rfl ?_
      show Steps p.tables e below (s₁.setTop (mkF m 6 #[.val (.int xa), .val (.int xb)] [(.int xa)])) _
      refine XS.goto X0.here hx rfl (pc0 := 6) (pc' := 10) rfl (hb hby d_jdk_29_method_65_code_6) (by decide) (by decide) ?_
      show Steps p.tables e below (s₁.setTop (mkF m 10 #[.val (.int xa), .val (.int xb)] [(.int xa)])) _
      exact retOut X0 hx Bd.returns rfl (Or.inl ⟨rfl, Or.inl rfl, _, rfl⟩) (hb hby d_jdk_29_method_65_code_10) hretL
    · show Q_rmmax Z xa xb h0 n0 _ s₁.heap _
      rw [e0]
      exact ⟨by simp only [mx, if_neg hc2_2], N0, rfl⟩
theorem d_jdk_29_method_69_code_0 : decode jdk_29_method_69_code 0 = .ok (.iload_n 0, 1) := by decide +kernel
theorem d_jdk_29_method_69_code_1 : decode jdk_29_method_69_code 1 = .ok (.iload_n 1, 1) := by decide +kernel
theorem d_jdk_29_method_69_code_2 : decode jdk_29_method_69_code 2 = .ok (.if_icmp .gt 7, 3) := by decide +kernel
theorem d_jdk_29_method_69_code_5 : decode jdk_29_method_69_code 5 = .ok (.iload_n 0, 1) := by decide +kernel
theorem d_jdk_29_method_69_code_6 : decode jdk_29_method_69_code 6 = .ok (.goto 4, 3) := by decide +kernel
theorem d_jdk_29_method_69_code_9 : decode jdk_29_method_69_code 9 = .ok (.iload_n 1, 1) := by decide +kernel
theorem d_jdk_29_method_69_code_10 : decode jdk_29_method_69_code 10 = .ok (.ireturn, 1) := by decide +kernel
def Q_rmmin (Z : State) (xa : Int32) (xb : Int32) (h0 : Heap) (n0 : Nat) (v : Option Value) (h : Heap) (L : List Loc) : Prop := v = some (.int (mi xa xb)) ∧ Fr n0 L ∧ h = h0
theorem ef_rmmin (m : MethodId) (xa : Int32) (xb : Int32) : entryFrame m #[(.int xa), (.int xb)] 2 = mkF m 0 #[.val (.int xa), .val (.int xb)] [] := by first | (simp [entryFrame, mkF, argsToLocals, Value.category]; done) | rfl
set_option maxRecDepth 65536 in
set_option maxHeartbeats 40000000 in
theorem rmmin (l : Launch) (Z : State) (a0 : Array Value) (hw : ∀ d ∈ tables_1, d.before a0 Z = true) (ws : List Jvm.Cond) (xa : Int32) (xb : Int32) (h0 : Heap) (n0 : Nat) (O0 : Old Z n0 h0) :
    MetFree l (⟨"java/lang/Math", "min", "(II)I"⟩ : MethodName) (head1 (Jvm.Cond.code (⟨"java/lang/Math", "min", "(II)I"⟩ : MethodName) jdk_29_method_69_code 2 (some .int) :: ws) ({ frames := 0, cells := 0, slots := 0, locals := 0 } : Room)) (fun aa U => aa = #[(.int xa), (.int xb)] ∧ Z.Warmed39 U.vm ∧ U.heap = h0) (fun _ _ _ _ _ => True) (fun _ U o U' => ∃ v L, o = .returned v ∧ Q_rmmin Z xa xb h0 n0 v U'.heap L ∧ FrameEnd U o U' L ({ frames := 0, cells := 0, slots := 0, locals := 0 } : Room).cells ({ frames := 0, cells := 0, slots := 0, locals := 0 } : Room).slots) := by
  refine MetFree.of_bodySF (Jvm.Free.JP.mathPlain rfl (by decide +kernel)) hisR ?_
  intro p e s m args below meth c s₁ Bd hml0 hP hK
  obtain ⟨rfl, hZ, hh⟩ := hP
  have hx := Bd.exec
  have hby := Bd.bytes
  have hml : c.maxLocals = 2 := hml0
  have hown : s.vm.findClass "java/lang/Math" = some m.cls := findClass_of_methodNamed Bd.named
  have hnm := (name_of_methodNamed Bd.named Bd.method).1
  have X0 : Stand p l e ({ frames := 0, cells := 0, slots := 0, locals := 0 } : Room) s m #[(.int xa), (.int xb)] below meth c s₁ [] 0 0 := Stand.of_body Bd
  have e0 : s₁.heap = h0 := by rw [← hh, Bd.state]; rfl
  have N0 := Fr.nil n0
  have K0 : Keep h0 h0 [] := Keep.refl _ _
  have pre0 : ∀ tgt, Steps p.tables e below (s₁.setTop (mkF m 0 #[.val (.int xa), .val (.int xb)] [])) tgt → Steps p.tables e below (s₁.setTop (entryFrame m #[(.int xa), (.int xb)] 2)) tgt := fun tgt kgo => castTop (ef_rmmin m xa xb) kgo
  have pre1 : ∀ tgt, Steps p.tables e below (s₁.setTop (mkF m 2 #[.val (.int xa), .val (.int xb)] [(.int xb), (.int xa)])) tgt → Steps p.tables e below (s₁.setTop (entryFrame m #[(.int xa), (.int xb)] 2)) tgt := by
    intro tgt kgo
    refine pre0 _ ?_
    refine XS.iloadN X0.here hx rfl (hb hby d_jdk_29_method_69_code_0) rfl ?_
    show Steps p.tables e below (s₁.setTop (mkF m 1 #[.val (.int xa), .val (.int xb)] [(.int xa)])) _
    refine XS.iloadN X0.here hx rfl (hb hby d_jdk_29_method_69_code_1) rfl ?_
    show Steps p.tables e below (s₁.setTop (mkF m 2 #[.val (.int xa), .val (.int xb)] [(.int xb), (.int xa)])) _
    exact kgo
  by_cases hc2_2 : xb < xa
  · obtain ⟨fs, hretL, hrun, hended, hW, hsame⟩ := X0.leave (v := some (.int xb)) (fun h => by rw [Bd.returns] at h; cases h)
    refine ⟨_, _, pre1 _ ?_, hrun, hended, _, _, rfl, ?_, ⟨_, rfl⟩, hW, hsame.mono (by decide) (by decide)⟩
    · refine XS.icmpYes X0.here hx rfl (pc0 := 2) (pc' := 9) rfl (hb hby d_jdk_29_method_69_code_2) rfl (tlt hc2_2).2.2.1 (by decide) (by decide) ?_
      show Steps p.tables e below (s₁.setTop (mkF m 9 #[.val (.int xa), .val (.int xb)] [])) _
      refine XS.iloadN X0.here hx rfl (hb hby d_jdk_29_method_69_code_9) rfl ?_
      show Steps p.tables e below (s₁.setTop (mkF m 10 #[.val (.int xa), .val (.int xb)] [(.int xb)])) _
      exact retOut X0 hx Bd.returns rfl (Or.inl ⟨rfl, Or.inl rfl, _, rfl⟩) (hb hby d_jdk_29_method_69_code_10) hretL
    · show Q_rmmin Z xa xb h0 n0 _ s₁.heap _
      rw [e0]
      exact ⟨by simp only [mi, if_pos hc2_2], N0, rfl⟩
  · obtain ⟨fs, hretL, hrun, hended, hW, hsame⟩ := X0.leave (v := some (.int xa)) (fun h => by rw [Bd.returns] at h; cases h)
    refine ⟨_, _, pre1 _ ?_, hrun, hended, _, _, rfl, ?_, ⟨_, rfl⟩, hW, hsame.mono (by decide) (by decide)⟩
    · refine XS.icmpNo X0.here hx rfl (hb hby d_jdk_29_method_69_code_2) rfl (flt hc2_2).2.2.1 ?_
      show Steps p.tables e below (s₁.setTop (mkF m 5 #[.val (.int xa), .val (.int xb)] [])) _
      refine XS.iloadN X0.here hx rfl (hb hby d_jdk_29_method_69_code_5) rfl ?_
      show Steps p.tables e below (s₁.setTop (mkF m 6 #[.val (.int xa), .val (.int xb)] [(.int xa)])) _
      refine XS.goto X0.here hx rfl (pc0 := 6) (pc' := 10) rfl (hb hby d_jdk_29_method_69_code_6) (by decide) (by decide) ?_
      show Steps p.tables e below (s₁.setTop (mkF m 10 #[.val (.int xa), .val (.int xb)] [(.int xa)])) _
      exact retOut X0 hx Bd.returns rfl (Or.inl ⟨rfl, Or.inl rfl, _, rfl⟩) (hb hby d_jdk_29_method_69_code_10) hretL
    · show Q_rmmin Z xa xb h0 n0 _ s₁.heap _
      rw [e0]
      exact ⟨by simp only [mi, if_neg hc2_2], N0, rfl⟩
theorem d_jdk_38_method_6_code_0 : decode jdk_38_method_6_code 0 = .ok (.aload_n 0, 1) := by decide +kernel
theorem d_jdk_38_method_6_code_1 : decode jdk_38_method_6_code 1 = .ok (.getfield 9, 3) := by decide +kernel
theorem d_jdk_38_method_6_code_4 : decode jdk_38_method_6_code 4 = .ok (.arraylength, 1) := by decide +kernel
theorem d_jdk_38_method_6_code_5 : decode jdk_38_method_6_code 5 = .ok (.istore_n 2, 1) := by decide +kernel
theorem d_jdk_38_method_6_code_6 : decode jdk_38_method_6_code 6 = .ok (.iload_n 2, 1) := by decide +kernel
theorem d_jdk_38_method_6_code_7 : decode jdk_38_method_6_code 7 = .ok (.ifCond .gt 13, 3) := by decide +kernel
theorem d_jdk_38_method_6_code_10 : decode jdk_38_method_6_code 10 = .ok (.aload_n 0, 1) := by decide +kernel
theorem d_jdk_38_method_6_code_11 : decode jdk_38_method_6_code 11 = .ok (.getfield 9, 3) := by decide +kernel
theorem d_jdk_38_method_6_code_14 : decode jdk_38_method_6_code 14 = .ok (.getstatic 39, 3) := by decide +kernel
theorem d_jdk_38_method_6_code_17 : decode jdk_38_method_6_code 17 = .ok (.if_acmp .eq 28, 3) := by decide +kernel
theorem d_jdk_38_method_6_code_45 : decode jdk_38_method_6_code 45 = .ok (.aload_n 0, 1) := by decide +kernel
theorem d_jdk_38_method_6_code_46 : decode jdk_38_method_6_code 46 = .ok (.bipush 10, 2) := by decide +kernel
theorem d_jdk_38_method_6_code_48 : decode jdk_38_method_6_code 48 = .ok (.iload_n 1, 1) := by decide +kernel
theorem d_jdk_38_method_6_code_49 : decode jdk_38_method_6_code 49 = .ok (.invokestatic 79, 3) := by decide +kernel
theorem d_jdk_38_method_6_code_52 : decode jdk_38_method_6_code 52 = .ok (.anewarray 7, 3) := by decide +kernel
theorem d_jdk_38_method_6_code_55 : decode jdk_38_method_6_code 55 = .ok (.dup_x1, 1) := by decide +kernel
theorem d_jdk_38_method_6_code_56 : decode jdk_38_method_6_code 56 = .ok (.putfield 9, 3) := by decide +kernel
theorem d_jdk_38_method_6_code_59 : decode jdk_38_method_6_code 59 = .ok (.areturn, 1) := by decide +kernel
def Q_rmgr1 (Z : State) (a : Addr) (de : Addr) (kde : ClassId) (mc : Int32) (h0 : Heap) (n0 : Nat) (v : Option Value) (h : Heap) (L : List Loc) : Prop := ∃ (b : Addr) (kk : ClassId), v = some (.ref b) ∧ Fr n0 L ∧ Keep h0 h [a] ∧ n0 ≤ b ∧ h0.size ≤ b ∧ Ovr Z kk "java/lang/Object" ∧ Exa Z h b "[Ljava/lang/Object;" ∧ Fld Z h a "java/util/AbstractList" "modCount" "I" (.int mc) ∧ Fld Z h a "java/util/ArrayList" "size" "I" (.int (0 : Int32)) ∧ Fld Z h a "java/util/ArrayList" "elementData" "[Ljava/lang/Object;" (.ref b) ∧ Arv Z h b kk (.object "java/lang/Object") (10 : Int32) [.null, .null, .null, .null, .null, .null, .null, .null, .null, .null] .null
theorem ef_rmgr1 (m : MethodId) (a : Addr) : entryFrame m #[(.ref a), (.int (1 : Int32))] 4 = mkF m 0 #[.val (.ref a), .val (.int (1 : Int32)), .unset, .unset] [] := by first | (simp [entryFrame, mkF, argsToLocals, Value.category]; done) | rfl
set_option maxRecDepth 65536 in
set_option maxHeartbeats 40000000 in
theorem rmgr1 (l : Launch) (Z : State) (a0 : Array Value) (hw : ∀ d ∈ tables_1, d.before a0 Z = true) (ws : List Jvm.Cond) (a : Addr) (de : Addr) (kde : ClassId) (mc : Int32) (h0 : Heap) (n0 : Nat) (O0 : Old Z n0 h0) (Sde : Sta Z Z.heap "java/util/ArrayList" "DEFAULTCAPACITY_EMPTY_ELEMENTDATA" "[Ljava/lang/Object;" (.ref de)) (Ade : Arv Z Z.heap de kde (.object "java/lang/Object") (0 : Int32) [] .null) (Ea : Exa Z h0 a "java/util/ArrayList") (Fm : Fld Z h0 a "java/util/AbstractList" "modCount" "I" (.int mc)) (Fs : Fld Z h0 a "java/util/ArrayList" "size" "I" (.int (0 : Int32))) (Fe : Fld Z h0 a "java/util/ArrayList" "elementData" "[Ljava/lang/Object;" (.ref de)) (ga : n0 ≤ a) :
    MetFree l (⟨"java/util/ArrayList", "grow", "(I)[Ljava/lang/Object;"⟩ : MethodName) (head1 (Jvm.Cond.code (⟨"java/util/ArrayList", "grow", "(I)[Ljava/lang/Object;"⟩ : MethodName) jdk_38_method_6_code 4 (some (.array (.object "java/lang/Object"))) :: ws) ({ frames := 1, cells := 1, slots := 10, locals := 14 } : Room)) (fun aa U => aa = #[(.ref a), (.int (1 : Int32))] ∧ Z.Warmed39 U.vm ∧ U.heap = h0) (fun _ _ _ _ _ => True) (fun _ U o U' => ∃ v L, o = .returned v ∧ Q_rmgr1 Z a de kde mc h0 n0 v U'.heap L ∧ FrameEnd U o U' L ({ frames := 1, cells := 1, slots := 10, locals := 14 } : Room).cells ({ frames := 1, cells := 1, slots := 10, locals := 14 } : Room).slots) := by
  refine MetFree.of_bodySF (plainFor_of_name pn7) hisR ?_
  intro p e s m args below meth c s₁ Bd hml0 hP hK
  obtain ⟨rfl, hZ, hh⟩ := hP
  have hx := Bd.exec
  have hby := Bd.bytes
  have hml : c.maxLocals = 4 := hml0
  have hown : s.vm.findClass "java/util/ArrayList" = some m.cls := findClass_of_methodNamed Bd.named
  have hnm := (name_of_methodNamed Bd.named Bd.method).1
  have X0 : Stand p l e ({ frames := 1, cells := 1, slots := 10, locals := 14 } : Room) s m #[(.ref a), (.int (1 : Int32))] below meth c s₁ [] 0 0 := Stand.of_body Bd
  have e0 : s₁.heap = h0 := by rw [← hh, Bd.state]; rfl
  have N0 := Fr.nil n0
  have K0 : Keep h0 h0 [a] := Keep.refl _ _
  have pre0 : ∀ tgt, Steps p.tables e below (s₁.setTop (mkF m 0 #[.val (.ref a), .val (.int (1 : Int32)), .unset, .unset] [])) tgt → Steps p.tables e below (s₁.setTop (entryFrame m #[(.ref a), (.int (1 : Int32))] 4)) tgt := fun tgt kgo => castTop (ef_rmgr1 m a) kgo
  obtain ⟨T1, X1, e1, st1⟩ := getF X0 hx hZ hown (host := "") (Or.inl (ow55 hw)) Via.refl e0 Fe (g := (mkF m 1 #[.val (.ref a), .val (.int (1 : Int32)), .unset, .unset] [(.ref a)])) rfl rfl (hb hby d_jdk_38_method_6_code_1)
  obtain ⟨cl2, Ar2, q2, S2, M2, H2, G2⟩ := id (Ade.ext O0.2)
  obtain ⟨T3, X3, e3, st3⟩ := getF X1 hx hZ hown (host := "") (Or.inl (ow55 hw)) Via.refl e1 Fe (g := (mkF m 11 #[.val (.ref a), .val (.int (1 : Int32)), .val (.int (0 : Int32)), .unset] [(.ref a)])) rfl rfl (hb hby d_jdk_38_method_6_code_11)
  obtain ⟨T4, X4, e4, st4⟩ := getS2 X3 hx hZ hown (host := "") (Or.inl (ow54 hw)) Via.refl e3 (Sde.ext O0.2) (g := (mkF m 14 #[.val (.ref a), .val (.int (1 : Int32)), .val (.int (0 : Int32)), .unset] [(.ref de)])) rfl (hb hby d_jdk_38_method_6_code_14)
  obtain ⟨_, _, ⟨T5, L5, k5, n5⟩, -, X5, ⟨Lc5, hQ5, l5, y5, z5⟩, st5⟩ := Jvm.LawKit.callS X4 hx (y := (⟨"java/lang/Math", "max", "(II)I"⟩ : MethodName)) hown (mvT hZ (ow81 hw)) (mvT hZ (ow82 hw)) (mvT hZ (ow83 hw)) (mvT hZ (ow84 hw)) (by decide) (backOf (W := 1) (rmmax l Z a0 hw [] (10 : Int32) (1 : Int32)  h0 n0 O0 ) hZ (ow84 hw) (ow83 hw) (by decide) (by decide)) (g := (mkF m 49 #[.val (.ref a), .val (.int (1 : Int32)), .val (.int (0 : Int32)), .unset] [(.int (1 : Int32)), (.int (10 : Int32)), (.ref a)])) rfl (by rw [hml]; rfl) (argsL := [(.int (10 : Int32)), (.int (1 : Int32))]) (rest := [(.ref a)]) (lenOf pd1 rfl) rfl (by show 2 * 0 + _ ≤ _; exact Nat.le_of_eq rfl) (hb hby d_jdk_38_method_6_code_49) (fun _ _ => ⟨rfl, e4, (by decide : 0 + 0 ≤ _), (by decide : 0 + 0 ≤ _)⟩)
  dsimp only [Pt.U, Pt.locs, Pt.cells, Pt.slots] at X5 l5 y5 z5 st5 hQ5
  subst l5 y5 z5
  obtain ⟨rfl, Nq5, eq5⟩ := hQ5
  have N6 := Fr.app N0 Nq5
  obtain ⟨T7, h7, k7, X7, e7, E7, A7, Ex7, Ov7, st7⟩ := newRE X5 hx hZ hown (ow85 hw) (ow86 hw) eq5 (g := (mkF m 52 #[.val (.ref a), .val (.int (1 : Int32)), .val (.int (0 : Int32)), .unset] [(.int (10 : Int32)), (.ref a)])) rfl (hb hby d_jdk_38_method_6_code_52) rfl (by decide) (cap := 10) (by decide) (by decide) (by decide) (by decide) (ad := "[Ljava/lang/Object;") rfl
  obtain ⟨b7, g7⟩ : ∃ z, z = h0.size := ⟨_, rfl⟩
  rw [← g7] at A7 st7 Ex7
  have V7 : Arv Z h7 b7 k7 (.object "java/lang/Object") (10 : Int32) [.null, .null, .null, .null, .null, .null, .null, .null, .null, .null] .null := (Arv.new A7 (by decide)).pad (pad_rep [] .null 10)
  have gn7 : n0 ≤ b7 := Nat.le_trans (own_sz O0) (Nat.le_of_eq g7.symm)
  have sz7 : h0.size ≤ b7 := Nat.le_trans K0.1 (Nat.le_of_eq g7.symm)
  have nea_7 : a ≠ b7 := Nat.ne_of_lt (Nat.lt_of_lt_of_le Ea.lt (Nat.le_of_eq g7.symm))
  have Ol8 := O0.ext E7
  have K8 := K0.ext E7
  have f9 := (Ea.ext E7)
  have f10 := (Fe.ext E7)
  obtain ⟨T11, h11, X11, e11, W11, st11⟩ := putF X7 hx hZ hown (host := "") (Or.inl (ow55 hw)) Via.refl e7 f10 f9 (Or.inl (ow56 hw)) (ow34 hw) (ty := (.array (.object "java/lang/Object"))) (by decide) rfl rfl (g := (mkF m 56 #[.val (.ref a), .val (.int (1 : Int32)), .val (.int (0 : Int32)), .unset] [(.ref b7), (.ref a), (.ref b7)])) rfl rfl (hb hby d_jdk_38_method_6_code_56)
  have Fw11 := f10.same W11
  have N12 := Fr.snoc X11 N6 ga
  have Ol12 := Ol8.wr W11 ga
  have K12 := K8.wr W11 (Or.inl (List.mem_of_getElem? (i := 0) rfl))
  have f13 := (Ex7.wr W11)
  have f14 := ((Fm.ext E7).other W11 (Or.inr (slot_ne (Or.inl (ow53 hw)) (Or.inl (ow56 hw)) (by decide) (t := .int) (t' := (.array (.object "java/lang/Object"))) (by decide) (by decide))))
  have f15 := ((Fs.ext E7).other W11 (Or.inr (slot_ne (Or.inl (ow65 hw)) (Or.inl (ow56 hw)) (by decide) (t := .int) (t' := (.array (.object "java/lang/Object"))) (by decide) (by decide))))
  have f16 := (V7.other W11 (Ne.symm nea_7))
  obtain ⟨fs, hretL, hrun, hended, hW, hsame⟩ := X11.leave (v := some (.ref b7)) (fun h => by rw [Bd.returns] at h; cases h)
  refine ⟨_, _, pre0 _ ?_, hrun, hended, _, _, rfl, ?_, ⟨_, rfl⟩, hW, hsame.mono (by decide) (by decide)⟩
  · refine XS.aloadN X0.here hx rfl (hb hby d_jdk_38_method_6_code_0) rfl rfl ?_
    show Steps p.tables e below (s₁.setTop (mkF m 1 #[.val (.ref a), .val (.int (1 : Int32)), .unset, .unset] [(.ref a)])) _
    refine st1 _ ?_
    show Steps p.tables e below (T1.setTop (mkF m 4 #[.val (.ref a), .val (.int (1 : Int32)), .unset, .unset] [(.ref de)])) _
    refine X1.arraylength hx (by rw [e1]; exact Ar2.1) (State.isArrayOf_alike hZ.alike Ar2.2.1) (g := (mkF m 4 #[.val (.ref a), .val (.int (1 : Int32)), .unset, .unset] [(.ref de)])) rfl rfl (hb hby d_jdk_38_method_6_code_4) _ ?_
    rw [len_of S2 M2]
    show Steps p.tables e below (T1.setTop (mkF m 5 #[.val (.ref a), .val (.int (1 : Int32)), .unset, .unset] [(.int (0 : Int32))])) _
    refine XS.istoreN X1.here hx rfl (hb hby d_jdk_38_method_6_code_5) rfl (l' := #[.val (.ref a), .val (.int (1 : Int32)), .val (.int (0 : Int32)), .unset]) rfl ?_
    show Steps p.tables e below (T1.setTop (mkF m 6 #[.val (.ref a), .val (.int (1 : Int32)), .val (.int (0 : Int32)), .unset] [])) _
    refine XS.iloadN X1.here hx rfl (hb hby d_jdk_38_method_6_code_6) rfl ?_
    show Steps p.tables e below (T1.setTop (mkF m 7 #[.val (.ref a), .val (.int (1 : Int32)), .val (.int (0 : Int32)), .unset] [(.int (0 : Int32))])) _
    refine XS.ifNo X1.here hx rfl (hb hby d_jdk_38_method_6_code_7) rfl ((if0 _ _).trans (flt (by decide : ¬ ((0 : Int32) < (0 : Int32)))).2.2.1) ?_
    show Steps p.tables e below (T1.setTop (mkF m 10 #[.val (.ref a), .val (.int (1 : Int32)), .val (.int (0 : Int32)), .unset] [])) _
    refine XS.aloadN X1.here hx rfl (hb hby d_jdk_38_method_6_code_10) rfl rfl ?_
    show Steps p.tables e below (T1.setTop (mkF m 11 #[.val (.ref a), .val (.int (1 : Int32)), .val (.int (0 : Int32)), .unset] [(.ref a)])) _
    refine st3 _ ?_
    show Steps p.tables e below (T3.setTop (mkF m 14 #[.val (.ref a), .val (.int (1 : Int32)), .val (.int (0 : Int32)), .unset] [(.ref de)])) _
    refine st4 _ ?_
    show Steps p.tables e below (T4.setTop (mkF m 17 #[.val (.ref a), .val (.int (1 : Int32)), .val (.int (0 : Int32)), .unset] [(.ref de), (.ref de)])) _
    refine Jvm.RoadKit.acmp (g := (mkF m 17 #[.val (.ref a), .val (.int (1 : Int32)), .val (.int (0 : Int32)), .unset] [(.ref de), (.ref de)])) X4 hx rfl rfl rfl (pc0 := 17) (pc' := 45) (same := true) rfl (hb hby d_jdk_38_method_6_code_17) rfl (decide_eq_true (congrArg Value.ref rfl)) (by decide) (by decide) ?_
    show Steps p.tables e below (T4.setTop (mkF m 45 #[.val (.ref a), .val (.int (1 : Int32)), .val (.int (0 : Int32)), .unset] [])) _
    refine XS.aloadN X4.here hx rfl (hb hby d_jdk_38_method_6_code_45) rfl rfl ?_
    show Steps p.tables e below (T4.setTop (mkF m 46 #[.val (.ref a), .val (.int (1 : Int32)), .val (.int (0 : Int32)), .unset] [(.ref a)])) _
    refine XS.bipush X4.here hx rfl (hb hby d_jdk_38_method_6_code_46) ?_
    show Steps p.tables e below (T4.setTop (mkF m 48 #[.val (.ref a), .val (.int (1 : Int32)), .val (.int (0 : Int32)), .unset] [(.int (10 : Int32)), (.ref a)])) _
    refine XS.iloadN X4.here hx rfl (hb hby d_jdk_38_method_6_code_48) rfl ?_
    show Steps p.tables e below (T4.setTop (mkF m 49 #[.val (.ref a), .val (.int (1 : Int32)), .val (.int (0 : Int32)), .unset] [(.int (1 : Int32)), (.int (10 : Int32)), (.ref a)])) _
    refine st5 _ ?_
    show Steps p.tables e below (T5.setTop (mkF m 52 #[.val (.ref a), .val (.int (1 : Int32)), .val (.int (0 : Int32)), .unset] [(.int (10 : Int32)), (.ref a)])) _
    refine st7 _ ?_
    show Steps p.tables e below (T7.setTop (mkF m 55 #[.val (.ref a), .val (.int (1 : Int32)), .val (.int (0 : Int32)), .unset] [(.ref b7), (.ref a)])) _
    refine XS.dupX1 X7.here hx rfl (hb hby d_jdk_38_method_6_code_55) rfl rfl rfl ?_
    show Steps p.tables e below (T7.setTop (mkF m 56 #[.val (.ref a), .val (.int (1 : Int32)), .val (.int (0 : Int32)), .unset] [(.ref b7), (.ref a), (.ref b7)])) _
    refine st11 _ ?_
    show Steps p.tables e below (T11.setTop (mkF m 59 #[.val (.ref a), .val (.int (1 : Int32)), .val (.int (0 : Int32)), .unset] [(.ref b7)])) _
    exact retOut X11 hx Bd.returns rfl (Or.inr (Or.inr (Or.inr (Or.inr ⟨rfl, rfl, rfl⟩)))) (hb hby d_jdk_38_method_6_code_59) hretL
  · show Q_rmgr1 Z a de kde mc h0 n0 _ T11.heap _
    rw [e11]
    exact ⟨_, _, rfl, N12, K12, gn7, sz7, Ov7, f13, f14, f15, Fw11, f16⟩
theorem d_jdk_38_method_7_code_0 : decode jdk_38_method_7_code 0 = .ok (.aload_n 0, 1) := by decide +kernel
theorem d_jdk_38_method_7_code_1 : decode jdk_38_method_7_code 1 = .ok (.aload_n 0, 1) := by decide +kernel
theorem d_jdk_38_method_7_code_2 : decode jdk_38_method_7_code 2 = .ok (.getfield 48, 3) := by decide +kernel
theorem d_jdk_38_method_7_code_5 : decode jdk_38_method_7_code 5 = .ok (.iconst 1, 1) := by decide +kernel
theorem d_jdk_38_method_7_code_6 : decode jdk_38_method_7_code 6 = .ok (.iadd, 1) := by decide +kernel
theorem d_jdk_38_method_7_code_7 : decode jdk_38_method_7_code 7 = .ok (.invokevirtual 69, 3) := by decide +kernel
theorem d_jdk_38_method_7_code_10 : decode jdk_38_method_7_code 10 = .ok (.areturn, 1) := by decide +kernel
def Q_rmgr0 (Z : State) (a : Addr) (de : Addr) (kde : ClassId) (mc : Int32) (h0 : Heap) (n0 : Nat) (v : Option Value) (h : Heap) (L : List Loc) : Prop := ∃ (b : Addr) (kk : ClassId), v = some (.ref b) ∧ Fr n0 L ∧ Keep h0 h [a] ∧ n0 ≤ b ∧ h0.size ≤ b ∧ Ovr Z kk "java/lang/Object" ∧ Exa Z h b "[Ljava/lang/Object;" ∧ Fld Z h a "java/util/AbstractList" "modCount" "I" (.int mc) ∧ Fld Z h a "java/util/ArrayList" "size" "I" (.int (0 : Int32)) ∧ Fld Z h a "java/util/ArrayList" "elementData" "[Ljava/lang/Object;" (.ref b) ∧ Arv Z h b kk (.object "java/lang/Object") (10 : Int32) [.null, .null, .null, .null, .null, .null, .null, .null, .null, .null] .null
theorem ef_rmgr0 (m : MethodId) (a : Addr) : entryFrame m #[(.ref a)] 1 = mkF m 0 #[.val (.ref a)] [] := by first | (simp [entryFrame, mkF, argsToLocals, Value.category]; done) | rfl
set_option maxRecDepth 65536 in
set_option maxHeartbeats 40000000 in
theorem rmgr0 (l : Launch) (Z : State) (a0 : Array Value) (hw : ∀ d ∈ tables_1, d.before a0 Z = true) (ws : List Jvm.Cond) (a : Addr) (de : Addr) (kde : ClassId) (mc : Int32) (h0 : Heap) (n0 : Nat) (O0 : Old Z n0 h0) (Sde : Sta Z Z.heap "java/util/ArrayList" "DEFAULTCAPACITY_EMPTY_ELEMENTDATA" "[Ljava/lang/Object;" (.ref de)) (Ade : Arv Z Z.heap de kde (.object "java/lang/Object") (0 : Int32) [] .null) (Ea : Exa Z h0 a "java/util/ArrayList") (Fm : Fld Z h0 a "java/util/AbstractList" "modCount" "I" (.int mc)) (Fs : Fld Z h0 a "java/util/ArrayList" "size" "I" (.int (0 : Int32))) (Fe : Fld Z h0 a "java/util/ArrayList" "elementData" "[Ljava/lang/Object;" (.ref de)) (ga : n0 ≤ a) :
    MetFree l (⟨"java/util/ArrayList", "grow", "()[Ljava/lang/Object;"⟩ : MethodName) (head1 (Jvm.Cond.code (⟨"java/util/ArrayList", "grow", "()[Ljava/lang/Object;"⟩ : MethodName) jdk_38_method_7_code 1 (some (.array (.object "java/lang/Object"))) :: ws) ({ frames := 2, cells := 1, slots := 10, locals := 29 } : Room)) (fun aa U => aa = #[(.ref a)] ∧ Z.Warmed39 U.vm ∧ U.heap = h0) (fun _ _ _ _ _ => True) (fun _ U o U' => ∃ v L, o = .returned v ∧ Q_rmgr0 Z a de kde mc h0 n0 v U'.heap L ∧ FrameEnd U o U' L ({ frames := 2, cells := 1, slots := 10, locals := 29 } : Room).cells ({ frames := 2, cells := 1, slots := 10, locals := 29 } : Room).slots) := by
  refine MetFree.of_bodySF (plainFor_of_name pn7) hisR ?_
  intro p e s m args below meth c s₁ Bd hml0 hP hK
  obtain ⟨rfl, hZ, hh⟩ := hP
  have hx := Bd.exec
  have hby := Bd.bytes
  have hml : c.maxLocals = 1 := hml0
  have hown : s.vm.findClass "java/util/ArrayList" = some m.cls := findClass_of_methodNamed Bd.named
  have hnm := (name_of_methodNamed Bd.named Bd.method).1
  have X0 : Stand p l e ({ frames := 2, cells := 1, slots := 10, locals := 29 } : Room) s m #[(.ref a)] below meth c s₁ [] 0 0 := Stand.of_body Bd
  have e0 : s₁.heap = h0 := by rw [← hh, Bd.state]; rfl
  have N0 := Fr.nil n0
  have K0 : Keep h0 h0 [a] := Keep.refl _ _
  have pre0 : ∀ tgt, Steps p.tables e below (s₁.setTop (mkF m 0 #[.val (.ref a)] [])) tgt → Steps p.tables e below (s₁.setTop (entryFrame m #[(.ref a)] 1)) tgt := fun tgt kgo => castTop (ef_rmgr0 m a) kgo
  obtain ⟨T1, X1, e1, st1⟩ := getF X0 hx hZ hown (host := "") (Or.inl (ow64 hw)) Via.refl e0 Fs (g := (mkF m 2 #[.val (.ref a)] [(.ref a), (.ref a)])) rfl rfl (hb hby d_jdk_38_method_7_code_2)
  obtain ⟨cq2, q2, q2'⟩ := Ea.cell
  obtain ⟨_, _, ⟨T2, L2, k2, n2⟩, -, X2, ⟨Lc2, hQ2, l2, y2, z2⟩, st2⟩ := X1.privateBack hx (y := (⟨"java/util/ArrayList", "grow", "(I)[Ljava/lang/Object;"⟩ : MethodName)) hown (mvT hZ (ow76 hw)) (mvT hZ (ow77 hw)) (mvT hZ (ow79 hw)) (Cond.privateMethod_at (mvP hZ (ow78 hw) (args := #[]))) (mvT hZ (ow80 hw)) (by decide) (backOf (W := 0) (rmgr1 l Z a0 hw [] a de kde mc h0 n0 O0 Sde Ade Ea Fm Fs Fe ga) hZ (ow80 hw) (ow35 hw) (by decide) (by decide)) (g := (mkF m 7 #[.val (.ref a)] [(.int (1 : Int32)), (.ref a)])) rfl (by rw [hml]; rfl) (Steps.refl _) (a := a) (by rw [e1]; exact q2) q2' (argsL := [(.int (1 : Int32))]) (rest := []) (lenOf pd2 rfl) rfl (by show 2 * 0 + _ ≤ _; exact Nat.le_of_eq rfl) (hb hby d_jdk_38_method_7_code_7) (fun _ _ => ⟨rfl, e1, (by decide : 0 + 1 ≤ _), (by decide : 0 + 10 ≤ _)⟩)
  dsimp only [Pt.U, Pt.locs, Pt.cells, Pt.slots] at X2 l2 y2 z2 st2 hQ2
  subst l2 y2 z2
  obtain ⟨gb2, gk2, rfl, Nq2, kp2, gg2, gz2, go2, gE2, gm2, gs2, ge2, ga2⟩ := hQ2
  have N3 := Fr.app N0 Nq2
  have Ol4 := O0.keep kp2 (allS ga all0)
  have K4 := K0.trans kp2 (allS (Or.inl (List.mem_of_getElem? (i := 0) rfl)) all0)
  have gne2_a : a ≠ gb2 := Nat.ne_of_lt (Nat.lt_of_lt_of_le Ea.lt gz2)
  obtain ⟨fs, hretL, hrun, hended, hW, hsame⟩ := X2.leave (v := some (.ref gb2)) (fun h => by rw [Bd.returns] at h; cases h)
  refine ⟨_, _, pre0 _ ?_, hrun, hended, _, _, rfl, ?_, ⟨_, rfl⟩, hW, hsame.mono (by decide) (by decide)⟩
  · refine XS.aloadN X0.here hx rfl (hb hby d_jdk_38_method_7_code_0) rfl rfl ?_
    show Steps p.tables e below (s₁.setTop (mkF m 1 #[.val (.ref a)] [(.ref a)])) _
    refine XS.aloadN X0.here hx rfl (hb hby d_jdk_38_method_7_code_1) rfl rfl ?_
    show Steps p.tables e below (s₁.setTop (mkF m 2 #[.val (.ref a)] [(.ref a), (.ref a)])) _
    refine st1 _ ?_
    show Steps p.tables e below (T1.setTop (mkF m 5 #[.val (.ref a)] [(.int (0 : Int32)), (.ref a)])) _
    refine XS.iconst X1.here hx rfl (hb hby d_jdk_38_method_7_code_5) ?_
    show Steps p.tables e below (T1.setTop (mkF m 6 #[.val (.ref a)] [(.int (1 : Int32)), (.int (0 : Int32)), (.ref a)])) _
    refine XS.iadd X1.here hx rfl (hb hby d_jdk_38_method_7_code_6) rfl ?_
    show Steps p.tables e below (T1.setTop (mkF m 7 #[.val (.ref a)] [(.int (1 : Int32)), (.ref a)])) _
    refine st2.trans ?_
    show Steps p.tables e below (T2.setTop (mkF m 10 #[.val (.ref a)] [(.ref gb2)])) _
    exact retOut X2 hx Bd.returns rfl (Or.inr (Or.inr (Or.inr (Or.inr ⟨rfl, rfl, rfl⟩)))) (hb hby d_jdk_38_method_7_code_10) hretL
  · show Q_rmgr0 Z a de kde mc h0 n0 _ T2.heap _
    exact ⟨_, _, rfl, N3, K4, gg2, (Nat.le_trans K0.1 gz2), go2, gE2, gm2, gs2, ge2, ga2⟩
theorem d_jdk_38_method_24_code_0 : decode jdk_38_method_24_code 0 = .ok (.iload_n 3, 1) := by decide +kernel
theorem d_jdk_38_method_24_code_1 : decode jdk_38_method_24_code 1 = .ok (.aload_n 2, 1) := by decide +kernel
theorem d_jdk_38_method_24_code_2 : decode jdk_38_method_24_code 2 = .ok (.arraylength, 1) := by decide +kernel
theorem d_jdk_38_method_24_code_3 : decode jdk_38_method_24_code 3 = .ok (.if_icmp .ne 8, 3) := by decide +kernel
theorem d_jdk_38_method_24_code_6 : decode jdk_38_method_24_code 6 = .ok (.aload_n 0, 1) := by decide +kernel
theorem d_jdk_38_method_24_code_7 : decode jdk_38_method_24_code 7 = .ok (.invokevirtual 129, 3) := by decide +kernel
theorem d_jdk_38_method_24_code_10 : decode jdk_38_method_24_code 10 = .ok (.astore_n 2, 1) := by decide +kernel
theorem d_jdk_38_method_24_code_11 : decode jdk_38_method_24_code 11 = .ok (.aload_n 2, 1) := by decide +kernel
theorem d_jdk_38_method_24_code_12 : decode jdk_38_method_24_code 12 = .ok (.iload_n 3, 1) := by decide +kernel
theorem d_jdk_38_method_24_code_13 : decode jdk_38_method_24_code 13 = .ok (.aload_n 1, 1) := by decide +kernel
theorem d_jdk_38_method_24_code_14 : decode jdk_38_method_24_code 14 = .ok (.aastore, 1) := by decide +kernel
theorem d_jdk_38_method_24_code_15 : decode jdk_38_method_24_code 15 = .ok (.aload_n 0, 1) := by decide +kernel
theorem d_jdk_38_method_24_code_16 : decode jdk_38_method_24_code 16 = .ok (.iload_n 3, 1) := by decide +kernel
theorem d_jdk_38_method_24_code_17 : decode jdk_38_method_24_code 17 = .ok (.iconst 1, 1) := by decide +kernel
theorem d_jdk_38_method_24_code_18 : decode jdk_38_method_24_code 18 = .ok (.iadd, 1) := by decide +kernel
theorem d_jdk_38_method_24_code_19 : decode jdk_38_method_24_code 19 = .ok (.putfield 48, 3) := by decide +kernel
theorem d_jdk_38_method_24_code_22 : decode jdk_38_method_24_code 22 = .ok (.return_, 1) := by decide +kernel
def Q_rmhp0 (Z : State) (a : Addr) (sp : Addr) (de : Addr) (kde : ClassId) (mc : Int32) (C : String) (h0 : Heap) (n0 : Nat) (v : Option Value) (h : Heap) (L : List Loc) : Prop := ∃ (b : Addr) (kk : ClassId), v = none ∧ Fr n0 L ∧ Keep h0 h [a] ∧ n0 ≤ b ∧ h0.size ≤ b ∧ Ovr Z kk "java/lang/Object" ∧ Exa Z h b "[Ljava/lang/Object;" ∧ Fld Z h a "java/util/AbstractList" "modCount" "I" (.int mc) ∧ Fld Z h a "java/util/ArrayList" "size" "I" (.int (1 : Int32)) ∧ Fld Z h a "java/util/ArrayList" "elementData" "[Ljava/lang/Object;" (.ref b) ∧ Arv Z h b kk (.object "java/lang/Object") (10 : Int32) [(.ref sp), .null, .null, .null, .null, .null, .null, .null, .null, .null] .null
theorem ef_rmhp0 (m : MethodId) (a : Addr) (sp : Addr) (de : Addr) : entryFrame m #[(.ref a), (.ref sp), (.ref de), (.int (0 : Int32))] 4 = mkF m 0 #[.val (.ref a), .val (.ref sp), .val (.ref de), .val (.int (0 : Int32))] [] := by first | (simp [entryFrame, mkF, argsToLocals, Value.category]; done) | rfl
set_option maxRecDepth 65536 in
set_option maxHeartbeats 40000000 in
theorem rmhp0 (l : Launch) (Z : State) (a0 : Array Value) (hw : ∀ d ∈ tables_1, d.before a0 Z = true) (ws : List Jvm.Cond) (a : Addr) (sp : Addr) (de : Addr) (kde : ClassId) (mc : Int32) (C : String) (h0 : Heap) (n0 : Nat) (O0 : Old Z n0 h0) (Sde : Sta Z Z.heap "java/util/ArrayList" "DEFAULTCAPACITY_EMPTY_ELEMENTDATA" "[Ljava/lang/Object;" (.ref de)) (Ade : Arv Z Z.heap de kde (.object "java/lang/Object") (0 : Int32) [] .null) (Ea : Exa Z h0 a "java/util/ArrayList") (Fm : Fld Z h0 a "java/util/AbstractList" "modCount" "I" (.int mc)) (Fs : Fld Z h0 a "java/util/ArrayList" "size" "I" (.int (0 : Int32))) (Fe : Fld Z h0 a "java/util/ArrayList" "elementData" "[Ljava/lang/Object;" (.ref de)) (ga : n0 ≤ a) (Esp : Exa Z h0 sp C) (hcast : (Jvm.Cond.castable C "java/lang/Object").before a0 Z = true) :
    MetFree l (⟨"java/util/ArrayList", "add", "(Ljava/lang/Object;[Ljava/lang/Object;I)V"⟩ : MethodName) (head1 (Jvm.Cond.code (⟨"java/util/ArrayList", "add", "(Ljava/lang/Object;[Ljava/lang/Object;I)V"⟩ : MethodName) jdk_38_method_24_code 4 none :: ws) ({ frames := 3, cells := 1, slots := 10, locals := 41 } : Room)) (fun aa U => aa = #[(.ref a), (.ref sp), (.ref de), (.int (0 : Int32))] ∧ Z.Warmed39 U.vm ∧ U.heap = h0) (fun _ _ _ _ _ => True) (fun _ U o U' => ∃ v L, o = .returned v ∧ Q_rmhp0 Z a sp de kde mc C h0 n0 v U'.heap L ∧ FrameEnd U o U' L ({ frames := 3, cells := 1, slots := 10, locals := 41 } : Room).cells ({ frames := 3, cells := 1, slots := 10, locals := 41 } : Room).slots) := by
  refine MetFree.of_bodySF (plainFor_of_name pn7) hisR ?_
  intro p e s m args below meth c s₁ Bd hml0 hP hK
  obtain ⟨rfl, hZ, hh⟩ := hP
  have hx := Bd.exec
  have hby := Bd.bytes
  have hml : c.maxLocals = 4 := hml0
  have hown : s.vm.findClass "java/util/ArrayList" = some m.cls := findClass_of_methodNamed Bd.named
  have hnm := (name_of_methodNamed Bd.named Bd.method).1
  have X0 : Stand p l e ({ frames := 3, cells := 1, slots := 10, locals := 41 } : Room) s m #[(.ref a), (.ref sp), (.ref de), (.int (0 : Int32))] below meth c s₁ [] 0 0 := Stand.of_body Bd
  have e0 : s₁.heap = h0 := by rw [← hh, Bd.state]; rfl
  have N0 := Fr.nil n0
  have K0 : Keep h0 h0 [a] := Keep.refl _ _
  have pre0 : ∀ tgt, Steps p.tables e below (s₁.setTop (mkF m 0 #[.val (.ref a), .val (.ref sp), .val (.ref de), .val (.int (0 : Int32))] [])) tgt → Steps p.tables e below (s₁.setTop (entryFrame m #[(.ref a), (.ref sp), (.ref de), (.int (0 : Int32))] 4)) tgt := fun tgt kgo => castTop (ef_rmhp0 m a sp de) kgo
  obtain ⟨cl1, Ar1, q1, S1, M1, H1, G1⟩ := id (Ade.ext O0.2)
  obtain ⟨cq2, q2, q2'⟩ := Ea.cell
  obtain ⟨_, _, ⟨T2, L2, k2, n2⟩, -, X2, ⟨Lc2, hQ2, l2, y2, z2⟩, st2⟩ := X0.privateBack hx (y := (⟨"java/util/ArrayList", "grow", "()[Ljava/lang/Object;"⟩ : MethodName)) hown (mvT hZ (ow71 hw)) (mvT hZ (ow72 hw)) (mvT hZ (ow74 hw)) (Cond.privateMethod_at (mvP hZ (ow73 hw) (args := #[]))) (mvT hZ (ow75 hw)) (by decide) (backOf (W := 0) (rmgr0 l Z a0 hw [] a de kde mc h0 n0 O0 Sde Ade Ea Fm Fs Fe ga) hZ (ow75 hw) (ow35 hw) (by decide) (by decide)) (g := (mkF m 7 #[.val (.ref a), .val (.ref sp), .val (.ref de), .val (.int (0 : Int32))] [(.ref a)])) rfl (by rw [hml]; rfl) (Steps.refl _) (a := a) (by rw [e0]; exact q2) q2' (argsL := []) (rest := []) (lenOf pd3 rfl) rfl (by show 2 * 0 + _ ≤ _; exact Nat.le_of_eq rfl) (hb hby d_jdk_38_method_24_code_7) (fun _ _ => ⟨rfl, e0, (by decide : 0 + 1 ≤ _), (by decide : 0 + 10 ≤ _)⟩)
  dsimp only [Pt.U, Pt.locs, Pt.cells, Pt.slots] at X2 l2 y2 z2 st2 hQ2
  subst l2 y2 z2
  obtain ⟨gb2, gk2, rfl, Nq2, kp2, gg2, gz2, go2, gE2, gm2, gs2, ge2, ga2⟩ := hQ2
  have N3 := Fr.app N0 Nq2
  have Ol4 := O0.keep kp2 (allS ga all0)
  have K4 := K0.trans kp2 (allS (Or.inl (List.mem_of_getElem? (i := 0) rfl)) all0)
  have gne2_a : a ≠ gb2 := Nat.ne_of_lt (Nat.lt_of_lt_of_le Ea.lt gz2)
  have gne2_sp : sp ≠ gb2 := Nat.ne_of_lt (Nat.lt_of_lt_of_le Esp.lt gz2)
  obtain ⟨cl5, Ar5, q5, S5, M5, H5, G5⟩ := id ga2
  have hin5 : ¬ ((0 : Int32) < 0 ∨ cl5.slots.size ≤ ((0 : Int32)).toNatClampNeg) := inb_of S5 ⟨by decide, by decide⟩
  have f6 := (Esp.keep kp2)
  obtain ⟨T7, h7, X7, e7, W7, st7⟩ := stR X2 hx hZ rfl Ar5 (j := (0 : Int32)) hin5 rfl (Sto.ofV Ar5 q5 go2 (Ins.of_exa f6 hcast)) (g := (mkF m 14 #[.val (.ref a), .val (.ref sp), .val (.ref gb2), .val (.int (0 : Int32))] [(.ref sp), (.int (0 : Int32)), (.ref gb2)])) rfl rfl (hb hby d_jdk_38_method_24_code_14)
  have V7 : Arv Z h7 gb2 gk2 (.object "java/lang/Object") (10 : Int32) [(.ref sp), .null, .null, .null, .null, .null, .null, .null, .null, .null] .null := Arv.set Ar5 q5 S5 M5 H5 G5 rfl W7 0 rfl (Nat.le_of_ble_eq_true rfl)
  have N8 := Fr.snoc X7 N3 gg2
  have Ol8 := Ol4.wr W7 gg2
  have K8 := K4.wr W7 (Or.inr (Nat.le_trans K0.1 gz2))
  have f9 := ((Ea.keep kp2).wr W7)
  have f10 := (gs2.other W7 (Or.inl gne2_a))
  obtain ⟨T11, h11, X11, e11, W11, st11⟩ := putF X7 hx hZ hown (host := "") (Or.inl (ow64 hw)) Via.refl e7 f10 f9 (Or.inl (ow65 hw)) (ow34 hw) (ty := .int) (by decide) rfl rfl (g := (mkF m 19 #[.val (.ref a), .val (.ref sp), .val (.ref gb2), .val (.int (0 : Int32))] [(.int (1 : Int32)), (.ref a)])) rfl rfl (hb hby d_jdk_38_method_24_code_19)
  have Fw11 := f10.same W11
  have N12 := Fr.snoc X11 N8 ga
  have Ol12 := Ol8.wr W11 ga
  have K12 := K8.wr W11 (Or.inl (List.mem_of_getElem? (i := 0) rfl))
  have f13 := ((gm2.other W7 (Or.inl gne2_a)).other W11 (Or.inr (slot_ne (Or.inl (ow53 hw)) (Or.inl (ow65 hw)) (by decide) (t := .int) (t' := .int) (by decide) (by decide))))
  have f14 := ((ge2.other W7 (Or.inl gne2_a)).other W11 (Or.inr (slot_ne (Or.inl (ow56 hw)) (Or.inl (ow65 hw)) (by decide) (t := (.array (.object "java/lang/Object"))) (t' := .int) (by decide) (by decide))))
  have f15 := (V7.other W11 (Ne.symm gne2_a))
  have f16 := ((gE2.wr W7).wr W11)
  obtain ⟨fs, hretL, hrun, hended, hW, hsame⟩ := X11.leave (v := none) (fun _ => rfl)
  refine ⟨_, _, pre0 _ ?_, hrun, hended, _, _, rfl, ?_, ⟨_, rfl⟩, hW, hsame.mono (by decide) (by decide)⟩
  · refine XS.iloadN X0.here hx rfl (hb hby d_jdk_38_method_24_code_0) rfl ?_
    show Steps p.tables e below (s₁.setTop (mkF m 1 #[.val (.ref a), .val (.ref sp), .val (.ref de), .val (.int (0 : Int32))] [(.int (0 : Int32))])) _
    refine XS.aloadN X0.here hx rfl (hb hby d_jdk_38_method_24_code_1) rfl rfl ?_
    show Steps p.tables e below (s₁.setTop (mkF m 2 #[.val (.ref a), .val (.ref sp), .val (.ref de), .val (.int (0 : Int32))] [(.ref de), (.int (0 : Int32))])) _
    refine X0.arraylength hx (by rw [e0]; exact Ar1.1) (State.isArrayOf_alike hZ.alike Ar1.2.1) (g := (mkF m 2 #[.val (.ref a), .val (.ref sp), .val (.ref de), .val (.int (0 : Int32))] [(.ref de), (.int (0 : Int32))])) rfl rfl (hb hby d_jdk_38_method_24_code_2) _ ?_
    rw [len_of S1 M1]
    show Steps p.tables e below (s₁.setTop (mkF m 3 #[.val (.ref a), .val (.ref sp), .val (.ref de), .val (.int (0 : Int32))] [(.int (0 : Int32)), (.int (0 : Int32))])) _
    refine XS.icmpNo X0.here hx rfl (hb hby d_jdk_38_method_24_code_3) rfl (teq (by decide : (0 : Int32) = (0 : Int32))).2 ?_
    show Steps p.tables e below (s₁.setTop (mkF m 6 #[.val (.ref a), .val (.ref sp), .val (.ref de), .val (.int (0 : Int32))] [])) _
    refine XS.aloadN X0.here hx rfl (hb hby d_jdk_38_method_24_code_6) rfl rfl ?_
    show Steps p.tables e below (s₁.setTop (mkF m 7 #[.val (.ref a), .val (.ref sp), .val (.ref de), .val (.int (0 : Int32))] [(.ref a)])) _
    refine st2.trans ?_
    show Steps p.tables e below (T2.setTop (mkF m 10 #[.val (.ref a), .val (.ref sp), .val (.ref de), .val (.int (0 : Int32))] [(.ref gb2)])) _
    refine XS.astoreN X2.here hx rfl (hb hby d_jdk_38_method_24_code_10) rfl rfl (l' := #[.val (.ref a), .val (.ref sp), .val (.ref gb2), .val (.int (0 : Int32))]) rfl ?_
    show Steps p.tables e below (T2.setTop (mkF m 11 #[.val (.ref a), .val (.ref sp), .val (.ref gb2), .val (.int (0 : Int32))] [])) _
    refine XS.aloadN X2.here hx rfl (hb hby d_jdk_38_method_24_code_11) rfl rfl ?_
    show Steps p.tables e below (T2.setTop (mkF m 12 #[.val (.ref a), .val (.ref sp), .val (.ref gb2), .val (.int (0 : Int32))] [(.ref gb2)])) _
    refine XS.iloadN X2.here hx rfl (hb hby d_jdk_38_method_24_code_12) rfl ?_
    show Steps p.tables e below (T2.setTop (mkF m 13 #[.val (.ref a), .val (.ref sp), .val (.ref gb2), .val (.int (0 : Int32))] [(.int (0 : Int32)), (.ref gb2)])) _
    refine XS.aloadN X2.here hx rfl (hb hby d_jdk_38_method_24_code_13) rfl rfl ?_
    show Steps p.tables e below (T2.setTop (mkF m 14 #[.val (.ref a), .val (.ref sp), .val (.ref gb2), .val (.int (0 : Int32))] [(.ref sp), (.int (0 : Int32)), (.ref gb2)])) _
    refine st7 _ ?_
    show Steps p.tables e below (T7.setTop (mkF m 15 #[.val (.ref a), .val (.ref sp), .val (.ref gb2), .val (.int (0 : Int32))] [])) _
    refine XS.aloadN X7.here hx rfl (hb hby d_jdk_38_method_24_code_15) rfl rfl ?_
    show Steps p.tables e below (T7.setTop (mkF m 16 #[.val (.ref a), .val (.ref sp), .val (.ref gb2), .val (.int (0 : Int32))] [(.ref a)])) _
    refine XS.iloadN X7.here hx rfl (hb hby d_jdk_38_method_24_code_16) rfl ?_
    show Steps p.tables e below (T7.setTop (mkF m 17 #[.val (.ref a), .val (.ref sp), .val (.ref gb2), .val (.int (0 : Int32))] [(.int (0 : Int32)), (.ref a)])) _
    refine XS.iconst X7.here hx rfl (hb hby d_jdk_38_method_24_code_17) ?_
    show Steps p.tables e below (T7.setTop (mkF m 18 #[.val (.ref a), .val (.ref sp), .val (.ref gb2), .val (.int (0 : Int32))] [(.int (1 : Int32)), (.int (0 : Int32)), (.ref a)])) _
    refine XS.iadd X7.here hx rfl (hb hby d_jdk_38_method_24_code_18) rfl ?_
    show Steps p.tables e below (T7.setTop (mkF m 19 #[.val (.ref a), .val (.ref sp), .val (.ref gb2), .val (.int (0 : Int32))] [(.int (1 : Int32)), (.ref a)])) _
    refine st11 _ ?_
    show Steps p.tables e below (T11.setTop (mkF m 22 #[.val (.ref a), .val (.ref sp), .val (.ref gb2), .val (.int (0 : Int32))] [])) _
    exact X11.returnOut hx Bd.returns (hb hby d_jdk_38_method_24_code_22) hretL
  · show Q_rmhp0 Z a sp de kde mc C h0 n0 _ T11.heap _
    rw [e11]
    exact ⟨_, _, rfl, N12, K12, gg2, (Nat.le_trans K0.1 gz2), go2, f16, f13, Fw11, f14, f15⟩
theorem d_jdk_38_method_25_code_0 : decode jdk_38_method_25_code 0 = .ok (.aload_n 0, 1) := by decide +kernel
theorem d_jdk_38_method_25_code_1 : decode jdk_38_method_25_code 1 = .ok (.dup, 1) := by decide +kernel
theorem d_jdk_38_method_25_code_2 : decode jdk_38_method_25_code 2 = .ok (.getfield 63, 3) := by decide +kernel
theorem d_jdk_38_method_25_code_5 : decode jdk_38_method_25_code 5 = .ok (.iconst 1, 1) := by decide +kernel
theorem d_jdk_38_method_25_code_6 : decode jdk_38_method_25_code 6 = .ok (.iadd, 1) := by decide +kernel
theorem d_jdk_38_method_25_code_7 : decode jdk_38_method_25_code 7 = .ok (.putfield 63, 3) := by decide +kernel
theorem d_jdk_38_method_25_code_10 : decode jdk_38_method_25_code 10 = .ok (.aload_n 0, 1) := by decide +kernel
theorem d_jdk_38_method_25_code_11 : decode jdk_38_method_25_code 11 = .ok (.aload_n 1, 1) := by decide +kernel
theorem d_jdk_38_method_25_code_12 : decode jdk_38_method_25_code 12 = .ok (.aload_n 0, 1) := by decide +kernel
theorem d_jdk_38_method_25_code_13 : decode jdk_38_method_25_code 13 = .ok (.getfield 9, 3) := by decide +kernel
theorem d_jdk_38_method_25_code_16 : decode jdk_38_method_25_code 16 = .ok (.aload_n 0, 1) := by decide +kernel
theorem d_jdk_38_method_25_code_17 : decode jdk_38_method_25_code 17 = .ok (.getfield 48, 3) := by decide +kernel
theorem d_jdk_38_method_25_code_20 : decode jdk_38_method_25_code 20 = .ok (.invokevirtual 131, 3) := by decide +kernel
theorem d_jdk_38_method_25_code_23 : decode jdk_38_method_25_code 23 = .ok (.iconst 1, 1) := by decide +kernel
theorem d_jdk_38_method_25_code_24 : decode jdk_38_method_25_code 24 = .ok (.ireturn, 1) := by decide +kernel
def Q_rmad0 (Z : State) (a : Addr) (sp : Addr) (de : Addr) (kde : ClassId) (mc : Int32) (C : String) (h0 : Heap) (n0 : Nat) (v : Option Value) (h : Heap) (L : List Loc) : Prop := ∃ (b : Addr) (kk : ClassId), v = some (.int (1 : Int32)) ∧ Fr n0 L ∧ Keep h0 h [a] ∧ n0 ≤ b ∧ h0.size ≤ b ∧ Ovr Z kk "java/lang/Object" ∧ Exa Z h b "[Ljava/lang/Object;" ∧ Fld Z h a "java/util/AbstractList" "modCount" "I" (.int (mc + (1 : Int32))) ∧ Fld Z h a "java/util/ArrayList" "size" "I" (.int (1 : Int32)) ∧ Fld Z h a "java/util/ArrayList" "elementData" "[Ljava/lang/Object;" (.ref b) ∧ Arv Z h b kk (.object "java/lang/Object") (10 : Int32) [(.ref sp), .null, .null, .null, .null, .null, .null, .null, .null, .null] .null
theorem ef_rmad0 (m : MethodId) (a : Addr) (sp : Addr) : entryFrame m #[(.ref a), (.ref sp)] 2 = mkF m 0 #[.val (.ref a), .val (.ref sp)] [] := by first | (simp [entryFrame, mkF, argsToLocals, Value.category]; done) | rfl
set_option maxRecDepth 65536 in
set_option maxHeartbeats 40000000 in
theorem rmad0 (l : Launch) (Z : State) (a0 : Array Value) (hw : ∀ d ∈ tables_1, d.before a0 Z = true) (ws : List Jvm.Cond) (a : Addr) (sp : Addr) (de : Addr) (kde : ClassId) (mc : Int32) (C : String) (h0 : Heap) (n0 : Nat) (O0 : Old Z n0 h0) (Sde : Sta Z Z.heap "java/util/ArrayList" "DEFAULTCAPACITY_EMPTY_ELEMENTDATA" "[Ljava/lang/Object;" (.ref de)) (Ade : Arv Z Z.heap de kde (.object "java/lang/Object") (0 : Int32) [] .null) (Ea : Exa Z h0 a "java/util/ArrayList") (Fm : Fld Z h0 a "java/util/AbstractList" "modCount" "I" (.int mc)) (Fs : Fld Z h0 a "java/util/ArrayList" "size" "I" (.int (0 : Int32))) (Fe : Fld Z h0 a "java/util/ArrayList" "elementData" "[Ljava/lang/Object;" (.ref de)) (ga : n0 ≤ a) (Esp : Exa Z h0 sp C) (hcast : (Jvm.Cond.castable C "java/lang/Object").before a0 Z = true) :
    MetFree l (⟨"java/util/ArrayList", "add", "(Ljava/lang/Object;)Z"⟩ : MethodName) (head1 (Jvm.Cond.code (⟨"java/util/ArrayList", "add", "(Ljava/lang/Object;)Z"⟩ : MethodName) jdk_38_method_25_code 2 (some .boolean) :: ws) ({ frames := 4, cells := 1, slots := 10, locals := 56 } : Room)) (fun aa U => aa = #[(.ref a), (.ref sp)] ∧ Z.Warmed39 U.vm ∧ U.heap = h0) (fun _ _ _ _ _ => True) (fun _ U o U' => ∃ v L, o = .returned v ∧ Q_rmad0 Z a sp de kde mc C h0 n0 v U'.heap L ∧ FrameEnd U o U' L ({ frames := 4, cells := 1, slots := 10, locals := 56 } : Room).cells ({ frames := 4, cells := 1, slots := 10, locals := 56 } : Room).slots) := by
  refine MetFree.of_bodySF (plainFor_of_name pn7) hisR ?_
  intro p e s m args below meth c s₁ Bd hml0 hP hK
  obtain ⟨rfl, hZ, hh⟩ := hP
  have hx := Bd.exec
  have hby := Bd.bytes
  have hml : c.maxLocals = 2 := hml0
  have hown : s.vm.findClass "java/util/ArrayList" = some m.cls := findClass_of_methodNamed Bd.named
  have hnm := (name_of_methodNamed Bd.named Bd.method).1
  have X0 : Stand p l e ({ frames := 4, cells := 1, slots := 10, locals := 56 } : Room) s m #[(.ref a), (.ref sp)] below meth c s₁ [] 0 0 := Stand.of_body Bd
  have e0 : s₁.heap = h0 := by rw [← hh, Bd.state]; rfl
  have N0 := Fr.nil n0
  have K0 : Keep h0 h0 [a] := Keep.refl _ _
  have pre0 : ∀ tgt, Steps p.tables e below (s₁.setTop (mkF m 0 #[.val (.ref a), .val (.ref sp)] [])) tgt → Steps p.tables e below (s₁.setTop (entryFrame m #[(.ref a), (.ref sp)] 2)) tgt := fun tgt kgo => castTop (ef_rmad0 m a sp) kgo
  obtain ⟨T1, X1, e1, st1⟩ := getF X0 hx hZ hown (host := "") (Or.inl (ow62 hw)) (Via.of (ow63 hw)) e0 Fm (g := (mkF m 2 #[.val (.ref a), .val (.ref sp)] [(.ref a), (.ref a)])) rfl rfl (hb hby d_jdk_38_method_25_code_2)
  obtain ⟨T2, h2, X2, e2, W2, st2⟩ := putF X1 hx hZ hown (host := "") (Or.inl (ow62 hw)) (Via.of (ow63 hw)) e1 Fm Ea (Or.inl (ow53 hw)) (ow34 hw) (ty := .int) (by decide) rfl rfl (g := (mkF m 7 #[.val (.ref a), .val (.ref sp)] [(.int (mc + (1 : Int32))), (.ref a)])) rfl rfl (hb hby d_jdk_38_method_25_code_7)
  have Fw2 := Fm.same W2
  have N3 := Fr.snoc X2 N0 ga
  have Ol3 := O0.wr W2 ga
  have K3 := K0.wr W2 (Or.inl (List.mem_of_getElem? (i := 0) rfl))
  have f4 := (Fe.other W2 (Or.inr (slot_ne (Or.inl (ow56 hw)) (Or.inl (ow53 hw)) (by decide) (t := (.array (.object "java/lang/Object"))) (t' := .int) (by decide) (by decide))))
  obtain ⟨T5, X5, e5, st5⟩ := getF X2 hx hZ hown (host := "") (Or.inl (ow55 hw)) Via.refl e2 f4 (g := (mkF m 13 #[.val (.ref a), .val (.ref sp)] [(.ref a), (.ref sp), (.ref a)])) rfl rfl (hb hby d_jdk_38_method_25_code_13)
  have f6 := (Fs.other W2 (Or.inr (slot_ne (Or.inl (ow65 hw)) (Or.inl (ow53 hw)) (by decide) (t := .int) (t' := .int) (by decide) (by decide))))
  obtain ⟨T7, X7, e7, st7⟩ := getF X5 hx hZ hown (host := "") (Or.inl (ow64 hw)) Via.refl e5 f6 (g := (mkF m 17 #[.val (.ref a), .val (.ref sp)] [(.ref a), (.ref de), (.ref sp), (.ref a)])) rfl rfl (hb hby d_jdk_38_method_25_code_17)
  have f8 := (Ea.wr W2)
  have f9 := (Esp.wr W2)
  obtain ⟨cq10, q10, q10'⟩ := f8.cell
  obtain ⟨_, _, ⟨T10, L10, k10, n10⟩, -, X10, ⟨Lc10, hQ10, l10, y10, z10⟩, st10⟩ := X7.privateBack hx (y := (⟨"java/util/ArrayList", "add", "(Ljava/lang/Object;[Ljava/lang/Object;I)V"⟩ : MethodName)) hown (mvT hZ (ow66 hw)) (mvT hZ (ow67 hw)) (mvT hZ (ow69 hw)) (Cond.privateMethod_at (mvP hZ (ow68 hw) (args := #[]))) (mvT hZ (ow70 hw)) (by decide) (backOf (W := 0) (rmhp0 l Z a0 hw [] a sp de kde (mc + (1 : Int32)) C h2 n0 Ol3 Sde Ade f8 Fw2 f6 f4 ga f9 hcast) hZ (ow70 hw) (ow35 hw) (by decide) (by decide)) (g := (mkF m 20 #[.val (.ref a), .val (.ref sp)] [(.int (0 : Int32)), (.ref de), (.ref sp), (.ref a)])) rfl (by rw [hml]; rfl) (Steps.refl _) (a := a) (by rw [e7]; exact q10) q10' (argsL := [(.ref sp), (.ref de), (.int (0 : Int32))]) (rest := []) (lenOf pd4 rfl) rfl (by show 2 * 0 + _ ≤ _; exact Nat.le_of_eq rfl) (hb hby d_jdk_38_method_25_code_20) (fun _ _ => ⟨rfl, e7, (by decide : 0 + 1 ≤ _), (by decide : 0 + 10 ≤ _)⟩)
  dsimp only [Pt.U, Pt.locs, Pt.cells, Pt.slots] at X10 l10 y10 z10 st10 hQ10
  subst l10 y10 z10
  obtain ⟨gb10, gk10, rfl, Nq10, kp10, gg10, gz10, go10, gE10, gm10, gs10, ge10, ga10⟩ := hQ10
  have N11 := Fr.app N3 Nq10
  have Ol12 := Ol3.keep kp10 (allS ga all0)
  have K12 := K3.trans kp10 (allS (Or.inl (List.mem_of_getElem? (i := 0) rfl)) all0)
  have gne10_a : a ≠ gb10 := Nat.ne_of_lt (Nat.lt_of_lt_of_le f8.lt gz10)
  have gne10_sp : sp ≠ gb10 := Nat.ne_of_lt (Nat.lt_of_lt_of_le f9.lt gz10)
  obtain ⟨fs, hretL, hrun, hended, hW, hsame⟩ := X10.leave (v := some (.int (1 : Int32))) (fun h => by rw [Bd.returns] at h; cases h)
  refine ⟨_, _, pre0 _ ?_, hrun, hended, _, _, rfl, ?_, ⟨_, rfl⟩, hW, hsame.mono (by decide) (by decide)⟩
  · refine XS.aloadN X0.here hx rfl (hb hby d_jdk_38_method_25_code_0) rfl rfl ?_
    show Steps p.tables e below (s₁.setTop (mkF m 1 #[.val (.ref a), .val (.ref sp)] [(.ref a)])) _
    refine XS.dup X0.here hx rfl (hb hby d_jdk_38_method_25_code_1) rfl rfl ?_
    show Steps p.tables e below (s₁.setTop (mkF m 2 #[.val (.ref a), .val (.ref sp)] [(.ref a), (.ref a)])) _
    refine st1 _ ?_
    show Steps p.tables e below (T1.setTop (mkF m 5 #[.val (.ref a), .val (.ref sp)] [(.int mc), (.ref a)])) _
    refine XS.iconst X1.here hx rfl (hb hby d_jdk_38_method_25_code_5) ?_
    show Steps p.tables e below (T1.setTop (mkF m 6 #[.val (.ref a), .val (.ref sp)] [(.int (1 : Int32)), (.int mc), (.ref a)])) _
    refine XS.iadd X1.here hx rfl (hb hby d_jdk_38_method_25_code_6) rfl ?_
    show Steps p.tables e below (T1.setTop (mkF m 7 #[.val (.ref a), .val (.ref sp)] [(.int (mc + (1 : Int32))), (.ref a)])) _
    refine st2 _ ?_
    show Steps p.tables e below (T2.setTop (mkF m 10 #[.val (.ref a), .val (.ref sp)] [])) _
    refine XS.aloadN X2.here hx rfl (hb hby d_jdk_38_method_25_code_10) rfl rfl ?_
    show Steps p.tables e below (T2.setTop (mkF m 11 #[.val (.ref a), .val (.ref sp)] [(.ref a)])) _
    refine XS.aloadN X2.here hx rfl (hb hby d_jdk_38_method_25_code_11) rfl rfl ?_
    show Steps p.tables e below (T2.setTop (mkF m 12 #[.val (.ref a), .val (.ref sp)] [(.ref sp), (.ref a)])) _
    refine XS.aloadN X2.here hx rfl (hb hby d_jdk_38_method_25_code_12) rfl rfl ?_
    show Steps p.tables e below (T2.setTop (mkF m 13 #[.val (.ref a), .val (.ref sp)] [(.ref a), (.ref sp), (.ref a)])) _
    refine st5 _ ?_
    show Steps p.tables e below (T5.setTop (mkF m 16 #[.val (.ref a), .val (.ref sp)] [(.ref de), (.ref sp), (.ref a)])) _
    refine XS.aloadN X5.here hx rfl (hb hby d_jdk_38_method_25_code_16) rfl rfl ?_
    show Steps p.tables e below (T5.setTop (mkF m 17 #[.val (.ref a), .val (.ref sp)] [(.ref a), (.ref de), (.ref sp), (.ref a)])) _
    refine st7 _ ?_
    show Steps p.tables e below (T7.setTop (mkF m 20 #[.val (.ref a), .val (.ref sp)] [(.int (0 : Int32)), (.ref de), (.ref sp), (.ref a)])) _
    refine st10.trans ?_
    show Steps p.tables e below (T10.setTop (mkF m 23 #[.val (.ref a), .val (.ref sp)] [])) _
    refine XS.iconst X10.here hx rfl (hb hby d_jdk_38_method_25_code_23) ?_
    show Steps p.tables e below (T10.setTop (mkF m 24 #[.val (.ref a), .val (.ref sp)] [(.int (1 : Int32))])) _
    exact retOut X10 hx Bd.returns rfl (Or.inl ⟨rfl, Or.inr (Or.inl rfl), _, rfl⟩) (hb hby d_jdk_38_method_25_code_24) hretL
  · show Q_rmad0 Z a sp de kde mc C h0 n0 _ T10.heap _
    exact ⟨_, _, rfl, N11, K12, gg10, (Nat.le_trans K3.1 gz10), go10, gE10, gm10, gs10, ge10, ga10⟩
def Q_rmhp1 (Z : State) (a : Addr) (sp : Addr) (b : Addr) (mc : Int32) (kk : ClassId) (C : String) (h0 : Heap) (n0 : Nat) (v : Option Value) (h : Heap) (L : List Loc) : Prop := v = none ∧ Fr n0 L ∧ Keep h0 h [a, b] ∧ Fld Z h a "java/util/AbstractList" "modCount" "I" (.int mc) ∧ Fld Z h a "java/util/ArrayList" "size" "I" (.int (2 : Int32)) ∧ Fld Z h a "java/util/ArrayList" "elementData" "[Ljava/lang/Object;" (.ref b) ∧ Arv Z h b kk (.object "java/lang/Object") (10 : Int32) [(.ref sp), (.ref sp), .null, .null, .null, .null, .null, .null, .null, .null] .null
theorem ef_rmhp1 (m : MethodId) (a : Addr) (sp : Addr) (b : Addr) : entryFrame m #[(.ref a), (.ref sp), (.ref b), (.int (1 : Int32))] 4 = mkF m 0 #[.val (.ref a), .val (.ref sp), .val (.ref b), .val (.int (1 : Int32))] [] := by first | (simp [entryFrame, mkF, argsToLocals, Value.category]; done) | rfl
set_option maxRecDepth 65536 in
set_option maxHeartbeats 40000000 in
theorem rmhp1 (l : Launch) (Z : State) (a0 : Array Value) (hw : ∀ d ∈ tables_1, d.before a0 Z = true) (ws : List Jvm.Cond) (a : Addr) (sp : Addr) (b : Addr) (mc : Int32) (kk : ClassId) (C : String) (h0 : Heap) (n0 : Nat) (O0 : Old Z n0 h0) (Ab : Arv Z h0 b kk (.object "java/lang/Object") (10 : Int32) [(.ref sp), .null, .null, .null, .null, .null, .null, .null, .null, .null] .null) (Ob : Ovr Z kk "java/lang/Object") (gb : n0 ≤ b) (nab : a ≠ b) (Ea : Exa Z h0 a "java/util/ArrayList") (Fm : Fld Z h0 a "java/util/AbstractList" "modCount" "I" (.int mc)) (Fs : Fld Z h0 a "java/util/ArrayList" "size" "I" (.int (1 : Int32))) (Fe : Fld Z h0 a "java/util/ArrayList" "elementData" "[Ljava/lang/Object;" (.ref b)) (ga : n0 ≤ a) (Esp : Exa Z h0 sp C) (hcast : (Jvm.Cond.castable C "java/lang/Object").before a0 Z = true) :
    MetFree l (⟨"java/util/ArrayList", "add", "(Ljava/lang/Object;[Ljava/lang/Object;I)V"⟩ : MethodName) (head1 (Jvm.Cond.code (⟨"java/util/ArrayList", "add", "(Ljava/lang/Object;[Ljava/lang/Object;I)V"⟩ : MethodName) jdk_38_method_24_code 4 none :: ws) ({ frames := 0, cells := 0, slots := 0, locals := 0 } : Room)) (fun aa U => aa = #[(.ref a), (.ref sp), (.ref b), (.int (1 : Int32))] ∧ Z.Warmed39 U.vm ∧ U.heap = h0) (fun _ _ _ _ _ => True) (fun _ U o U' => ∃ v L, o = .returned v ∧ Q_rmhp1 Z a sp b mc kk C h0 n0 v U'.heap L ∧ FrameEnd U o U' L ({ frames := 0, cells := 0, slots := 0, locals := 0 } : Room).cells ({ frames := 0, cells := 0, slots := 0, locals := 0 } : Room).slots) := by
  refine MetFree.of_bodySF (plainFor_of_name pn7) hisR ?_
  intro p e s m args below meth c s₁ Bd hml0 hP hK
  obtain ⟨rfl, hZ, hh⟩ := hP
  have hx := Bd.exec
  have hby := Bd.bytes
  have hml : c.maxLocals = 4 := hml0
  have hown : s.vm.findClass "java/util/ArrayList" = some m.cls := findClass_of_methodNamed Bd.named
  have hnm := (name_of_methodNamed Bd.named Bd.method).1
  have X0 : Stand p l e ({ frames := 0, cells := 0, slots := 0, locals := 0 } : Room) s m #[(.ref a), (.ref sp), (.ref b), (.int (1 : Int32))] below meth c s₁ [] 0 0 := Stand.of_body Bd
  have e0 : s₁.heap = h0 := by rw [← hh, Bd.state]; rfl
  have N0 := Fr.nil n0
  have K0 : Keep h0 h0 [a, b] := Keep.refl _ _
  have pre0 : ∀ tgt, Steps p.tables e below (s₁.setTop (mkF m 0 #[.val (.ref a), .val (.ref sp), .val (.ref b), .val (.int (1 : Int32))] [])) tgt → Steps p.tables e below (s₁.setTop (entryFrame m #[(.ref a), (.ref sp), (.ref b), (.int (1 : Int32))] 4)) tgt := fun tgt kgo => castTop (ef_rmhp1 m a sp b) kgo
  obtain ⟨cl1, Ar1, q1, S1, M1, H1, G1⟩ := id Ab
  obtain ⟨cl2, Ar2, q2, S2, M2, H2, G2⟩ := id Ab
  have hin2 : ¬ ((1 : Int32) < 0 ∨ cl2.slots.size ≤ ((1 : Int32)).toNatClampNeg) := inb_of S2 ⟨by decide, by decide⟩
  obtain ⟨T3, h3, X3, e3, W3, st3⟩ := stR X0 hx hZ e0 Ar2 (j := (1 : Int32)) hin2 rfl (Sto.ofV Ar2 q2 Ob (Ins.of_exa Esp hcast)) (g := (mkF m 14 #[.val (.ref a), .val (.ref sp), .val (.ref b), .val (.int (1 : Int32))] [(.ref sp), (.int (1 : Int32)), (.ref b)])) rfl rfl (hb hby d_jdk_38_method_24_code_14)
  have V3 : Arv Z h3 b kk (.object "java/lang/Object") (10 : Int32) [(.ref sp), (.ref sp), .null, .null, .null, .null, .null, .null, .null, .null] .null := Arv.set Ar2 q2 S2 M2 H2 G2 rfl W3 1 rfl (Nat.le_of_ble_eq_true rfl)
  have N4 := Fr.snoc X3 N0 gb
  have Ol4 := O0.wr W3 gb
  have K4 := K0.wr W3 (Or.inl (List.mem_of_getElem? (i := 1) rfl))
  have f5 := (Ea.wr W3)
  have f6 := (Fs.other W3 (Or.inl nab))
  obtain ⟨T7, h7, X7, e7, W7, st7⟩ := putF X3 hx hZ hown (host := "") (Or.inl (ow64 hw)) Via.refl e3 f6 f5 (Or.inl (ow65 hw)) (ow34 hw) (ty := .int) (by decide) rfl rfl (g := (mkF m 19 #[.val (.ref a), .val (.ref sp), .val (.ref b), .val (.int (1 : Int32))] [(.int (2 : Int32)), (.ref a)])) rfl rfl (hb hby d_jdk_38_method_24_code_19)
  have Fw7 := f6.same W7
  have N8 := Fr.snoc X7 N4 ga
  have Ol8 := Ol4.wr W7 ga
  have K8 := K4.wr W7 (Or.inl (List.mem_of_getElem? (i := 0) rfl))
  have f9 := ((Fm.other W3 (Or.inl nab)).other W7 (Or.inr (slot_ne (Or.inl (ow53 hw)) (Or.inl (ow65 hw)) (by decide) (t := .int) (t' := .int) (by decide) (by decide))))
  have f10 := ((Fe.other W3 (Or.inl nab)).other W7 (Or.inr (slot_ne (Or.inl (ow56 hw)) (Or.inl (ow65 hw)) (by decide) (t := (.array (.object "java/lang/Object"))) (t' := .int) (by decide) (by decide))))
  have f11 := (V3.other W7 (Ne.symm nab))
  obtain ⟨fs, hretL, hrun, hended, hW, hsame⟩ := X7.leave (v := none) (fun _ => rfl)
  refine ⟨_, _, pre0 _ ?_, hrun, hended, _, _, rfl, ?_, ⟨_, rfl⟩, hW, hsame.mono (by decide) (by decide)⟩
  · refine XS.iloadN X0.here hx rfl (hb hby d_jdk_38_method_24_code_0) rfl ?_
    show Steps p.tables e below (s₁.setTop (mkF m 1 #[.val (.ref a), .val (.ref sp), .val (.ref b), .val (.int (1 : Int32))] [(.int (1 : Int32))])) _
    refine XS.aloadN X0.here hx rfl (hb hby d_jdk_38_method_24_code_1) rfl rfl ?_
    show Steps p.tables e below (s₁.setTop (mkF m 2 #[.val (.ref a), .val (.ref sp), .val (.ref b), .val (.int (1 : Int32))] [(.ref b), (.int (1 : Int32))])) _
    refine X0.arraylength hx (by rw [e0]; exact Ar1.1) (State.isArrayOf_alike hZ.alike Ar1.2.1) (g := (mkF m 2 #[.val (.ref a), .val (.ref sp), .val (.ref b), .val (.int (1 : Int32))] [(.ref b), (.int (1 : Int32))])) rfl rfl (hb hby d_jdk_38_method_24_code_2) _ ?_
    rw [len_of S1 M1]
    show Steps p.tables e below (s₁.setTop (mkF m 3 #[.val (.ref a), .val (.ref sp), .val (.ref b), .val (.int (1 : Int32))] [(.int (10 : Int32)), (.int (1 : Int32))])) _
    refine XS.icmpYes X0.here hx rfl (pc0 := 3) (pc' := 11) rfl (hb hby d_jdk_38_method_24_code_3) rfl (feq (by decide : ¬ ((1 : Int32) = (10 : Int32)))).2 (by decide) (by decide) ?_
    show Steps p.tables e below (s₁.setTop (mkF m 11 #[.val (.ref a), .val (.ref sp), .val (.ref b), .val (.int (1 : Int32))] [])) _
    refine XS.aloadN X0.here hx rfl (hb hby d_jdk_38_method_24_code_11) rfl rfl ?_
    show Steps p.tables e below (s₁.setTop (mkF m 12 #[.val (.ref a), .val (.ref sp), .val (.ref b), .val (.int (1 : Int32))] [(.ref b)])) _
    refine XS.iloadN X0.here hx rfl (hb hby d_jdk_38_method_24_code_12) rfl ?_
    show Steps p.tables e below (s₁.setTop (mkF m 13 #[.val (.ref a), .val (.ref sp), .val (.ref b), .val (.int (1 : Int32))] [(.int (1 : Int32)), (.ref b)])) _
    refine XS.aloadN X0.here hx rfl (hb hby d_jdk_38_method_24_code_13) rfl rfl ?_
    show Steps p.tables e below (s₁.setTop (mkF m 14 #[.val (.ref a), .val (.ref sp), .val (.ref b), .val (.int (1 : Int32))] [(.ref sp), (.int (1 : Int32)), (.ref b)])) _
    refine st3 _ ?_
    show Steps p.tables e below (T3.setTop (mkF m 15 #[.val (.ref a), .val (.ref sp), .val (.ref b), .val (.int (1 : Int32))] [])) _
    refine XS.aloadN X3.here hx rfl (hb hby d_jdk_38_method_24_code_15) rfl rfl ?_
    show Steps p.tables e below (T3.setTop (mkF m 16 #[.val (.ref a), .val (.ref sp), .val (.ref b), .val (.int (1 : Int32))] [(.ref a)])) _
    refine XS.iloadN X3.here hx rfl (hb hby d_jdk_38_method_24_code_16) rfl ?_
    show Steps p.tables e below (T3.setTop (mkF m 17 #[.val (.ref a), .val (.ref sp), .val (.ref b), .val (.int (1 : Int32))] [(.int (1 : Int32)), (.ref a)])) _
    refine XS.iconst X3.here hx rfl (hb hby d_jdk_38_method_24_code_17) ?_
    show Steps p.tables e below (T3.setTop (mkF m 18 #[.val (.ref a), .val (.ref sp), .val (.ref b), .val (.int (1 : Int32))] [(.int (1 : Int32)), (.int (1 : Int32)), (.ref a)])) _
    refine XS.iadd X3.here hx rfl (hb hby d_jdk_38_method_24_code_18) rfl ?_
    show Steps p.tables e below (T3.setTop (mkF m 19 #[.val (.ref a), .val (.ref sp), .val (.ref b), .val (.int (1 : Int32))] [(.int (2 : Int32)), (.ref a)])) _
    refine st7 _ ?_
    show Steps p.tables e below (T7.setTop (mkF m 22 #[.val (.ref a), .val (.ref sp), .val (.ref b), .val (.int (1 : Int32))] [])) _
    exact X7.returnOut hx Bd.returns (hb hby d_jdk_38_method_24_code_22) hretL
  · show Q_rmhp1 Z a sp b mc kk C h0 n0 _ T7.heap _
    rw [e7]
    exact ⟨rfl, N8, K8, f9, Fw7, f10, f11⟩
def Q_rmad1 (Z : State) (a : Addr) (sp : Addr) (mc : Int32) (b : Addr) (kk : ClassId) (C : String) (h0 : Heap) (n0 : Nat) (v : Option Value) (h : Heap) (L : List Loc) : Prop := v = some (.int (1 : Int32)) ∧ Fr n0 L ∧ Keep h0 h [a, b] ∧ Fld Z h a "java/util/AbstractList" "modCount" "I" (.int (mc + (1 : Int32))) ∧ Fld Z h a "java/util/ArrayList" "size" "I" (.int (2 : Int32)) ∧ Fld Z h a "java/util/ArrayList" "elementData" "[Ljava/lang/Object;" (.ref b) ∧ Arv Z h b kk (.object "java/lang/Object") (10 : Int32) [(.ref sp), (.ref sp), .null, .null, .null, .null, .null, .null, .null, .null] .null
theorem ef_rmad1 (m : MethodId) (a : Addr) (sp : Addr) : entryFrame m #[(.ref a), (.ref sp)] 2 = mkF m 0 #[.val (.ref a), .val (.ref sp)] [] := by first | (simp [entryFrame, mkF, argsToLocals, Value.category]; done) | rfl
set_option maxRecDepth 65536 in
set_option maxHeartbeats 40000000 in
theorem rmad1 (l : Launch) (Z : State) (a0 : Array Value) (hw : ∀ d ∈ tables_1, d.before a0 Z = true) (ws : List Jvm.Cond) (a : Addr) (sp : Addr) (mc : Int32) (b : Addr) (kk : ClassId) (C : String) (h0 : Heap) (n0 : Nat) (O0 : Old Z n0 h0) (Ab : Arv Z h0 b kk (.object "java/lang/Object") (10 : Int32) [(.ref sp), .null, .null, .null, .null, .null, .null, .null, .null, .null] .null) (Ob : Ovr Z kk "java/lang/Object") (gb : n0 ≤ b) (nab : a ≠ b) (Ea : Exa Z h0 a "java/util/ArrayList") (Fm : Fld Z h0 a "java/util/AbstractList" "modCount" "I" (.int mc)) (Fs : Fld Z h0 a "java/util/ArrayList" "size" "I" (.int (1 : Int32))) (Fe : Fld Z h0 a "java/util/ArrayList" "elementData" "[Ljava/lang/Object;" (.ref b)) (ga : n0 ≤ a) (Esp : Exa Z h0 sp C) (hcast : (Jvm.Cond.castable C "java/lang/Object").before a0 Z = true) :
    MetFree l (⟨"java/util/ArrayList", "add", "(Ljava/lang/Object;)Z"⟩ : MethodName) (head1 (Jvm.Cond.code (⟨"java/util/ArrayList", "add", "(Ljava/lang/Object;)Z"⟩ : MethodName) jdk_38_method_25_code 2 (some .boolean) :: ws) ({ frames := 1, cells := 0, slots := 0, locals := 15 } : Room)) (fun aa U => aa = #[(.ref a), (.ref sp)] ∧ Z.Warmed39 U.vm ∧ U.heap = h0) (fun _ _ _ _ _ => True) (fun _ U o U' => ∃ v L, o = .returned v ∧ Q_rmad1 Z a sp mc b kk C h0 n0 v U'.heap L ∧ FrameEnd U o U' L ({ frames := 1, cells := 0, slots := 0, locals := 15 } : Room).cells ({ frames := 1, cells := 0, slots := 0, locals := 15 } : Room).slots) := by
  refine MetFree.of_bodySF (plainFor_of_name pn7) hisR ?_
  intro p e s m args below meth c s₁ Bd hml0 hP hK
  obtain ⟨rfl, hZ, hh⟩ := hP
  have hx := Bd.exec
  have hby := Bd.bytes
  have hml : c.maxLocals = 2 := hml0
  have hown : s.vm.findClass "java/util/ArrayList" = some m.cls := findClass_of_methodNamed Bd.named
  have hnm := (name_of_methodNamed Bd.named Bd.method).1
  have X0 : Stand p l e ({ frames := 1, cells := 0, slots := 0, locals := 15 } : Room) s m #[(.ref a), (.ref sp)] below meth c s₁ [] 0 0 := Stand.of_body Bd
  have e0 : s₁.heap = h0 := by rw [← hh, Bd.state]; rfl
  have N0 := Fr.nil n0
  have K0 : Keep h0 h0 [a, b] := Keep.refl _ _
  have pre0 : ∀ tgt, Steps p.tables e below (s₁.setTop (mkF m 0 #[.val (.ref a), .val (.ref sp)] [])) tgt → Steps p.tables e below (s₁.setTop (entryFrame m #[(.ref a), (.ref sp)] 2)) tgt := fun tgt kgo => castTop (ef_rmad1 m a sp) kgo
  obtain ⟨T1, X1, e1, st1⟩ := getF X0 hx hZ hown (host := "") (Or.inl (ow62 hw)) (Via.of (ow63 hw)) e0 Fm (g := (mkF m 2 #[.val (.ref a), .val (.ref sp)] [(.ref a), (.ref a)])) rfl rfl (hb hby d_jdk_38_method_25_code_2)
  obtain ⟨T2, h2, X2, e2, W2, st2⟩ := putF X1 hx hZ hown (host := "") (Or.inl (ow62 hw)) (Via.of (ow63 hw)) e1 Fm Ea (Or.inl (ow53 hw)) (ow34 hw) (ty := .int) (by decide) rfl rfl (g := (mkF m 7 #[.val (.ref a), .val (.ref sp)] [(.int (mc + (1 : Int32))), (.ref a)])) rfl rfl (hb hby d_jdk_38_method_25_code_7)
  have Fw2 := Fm.same W2
  have N3 := Fr.snoc X2 N0 ga
  have Ol3 := O0.wr W2 ga
  have K3 := K0.wr W2 (Or.inl (List.mem_of_getElem? (i := 0) rfl))
  have f4 := (Fe.other W2 (Or.inr (slot_ne (Or.inl (ow56 hw)) (Or.inl (ow53 hw)) (by decide) (t := (.array (.object "java/lang/Object"))) (t' := .int) (by decide) (by decide))))
  obtain ⟨T5, X5, e5, st5⟩ := getF X2 hx hZ hown (host := "") (Or.inl (ow55 hw)) Via.refl e2 f4 (g := (mkF m 13 #[.val (.ref a), .val (.ref sp)] [(.ref a), (.ref sp), (.ref a)])) rfl rfl (hb hby d_jdk_38_method_25_code_13)
  have f6 := (Fs.other W2 (Or.inr (slot_ne (Or.inl (ow65 hw)) (Or.inl (ow53 hw)) (by decide) (t := .int) (t' := .int) (by decide) (by decide))))
  obtain ⟨T7, X7, e7, st7⟩ := getF X5 hx hZ hown (host := "") (Or.inl (ow64 hw)) Via.refl e5 f6 (g := (mkF m 17 #[.val (.ref a), .val (.ref sp)] [(.ref a), (.ref b), (.ref sp), (.ref a)])) rfl rfl (hb hby d_jdk_38_method_25_code_17)
  have f8 := (Ea.wr W2)
  have f9 := (Ab.other W2 (Ne.symm nab))
  have f10 := (Esp.wr W2)
  obtain ⟨cq11, q11, q11'⟩ := f8.cell
  obtain ⟨_, _, ⟨T11, L11, k11, n11⟩, -, X11, ⟨Lc11, hQ11, l11, y11, z11⟩, st11⟩ := X7.privateBack hx (y := (⟨"java/util/ArrayList", "add", "(Ljava/lang/Object;[Ljava/lang/Object;I)V"⟩ : MethodName)) hown (mvT hZ (ow66 hw)) (mvT hZ (ow67 hw)) (mvT hZ (ow69 hw)) (Cond.privateMethod_at (mvP hZ (ow68 hw) (args := #[]))) (mvT hZ (ow70 hw)) (by decide) (backOf (W := 0) (rmhp1 l Z a0 hw [] a sp b (mc + (1 : Int32)) kk C h2 n0 Ol3 f9 Ob gb nab f8 Fw2 f6 f4 ga f10 hcast) hZ (ow70 hw) (ow35 hw) (by decide) (by decide)) (g := (mkF m 20 #[.val (.ref a), .val (.ref sp)] [(.int (1 : Int32)), (.ref b), (.ref sp), (.ref a)])) rfl (by rw [hml]; rfl) (Steps.refl _) (a := a) (by rw [e7]; exact q11) q11' (argsL := [(.ref sp), (.ref b), (.int (1 : Int32))]) (rest := []) (lenOf pd4 rfl) rfl (by show 2 * 0 + _ ≤ _; exact Nat.le_of_eq rfl) (hb hby d_jdk_38_method_25_code_20) (fun _ _ => ⟨rfl, e7, (by decide : 0 + 0 ≤ _), (by decide : 0 + 0 ≤ _)⟩)
  dsimp only [Pt.U, Pt.locs, Pt.cells, Pt.slots] at X11 l11 y11 z11 st11 hQ11
  subst l11 y11 z11
  obtain ⟨rfl, Nq11, kp11, gm11, gs11, ge11, ga11⟩ := hQ11
  have N12 := Fr.app N3 Nq11
  have Ol13 := Ol3.keep kp11 (allS ga (allS gb all0))
  have K13 := K3.trans kp11 (allS (Or.inl (List.mem_of_getElem? (i := 0) rfl)) (allS (Or.inl (List.mem_of_getElem? (i := 1) rfl)) all0))
  obtain ⟨fs, hretL, hrun, hended, hW, hsame⟩ := X11.leave (v := some (.int (1 : Int32))) (fun h => by rw [Bd.returns] at h; cases h)
  refine ⟨_, _, pre0 _ ?_, hrun, hended, _, _, rfl, ?_, ⟨_, rfl⟩, hW, hsame.mono (by decide) (by decide)⟩
  · refine XS.aloadN X0.here hx rfl (hb hby d_jdk_38_method_25_code_0) rfl rfl ?_
    show Steps p.tables e below (s₁.setTop (mkF m 1 #[.val (.ref a), .val (.ref sp)] [(.ref a)])) _
    refine XS.dup X0.here hx rfl (hb hby d_jdk_38_method_25_code_1) rfl rfl ?_
    show Steps p.tables e below (s₁.setTop (mkF m 2 #[.val (.ref a), .val (.ref sp)] [(.ref a), (.ref a)])) _
    refine st1 _ ?_
    show Steps p.tables e below (T1.setTop (mkF m 5 #[.val (.ref a), .val (.ref sp)] [(.int mc), (.ref a)])) _
    refine XS.iconst X1.here hx rfl (hb hby d_jdk_38_method_25_code_5) ?_
    show Steps p.tables e below (T1.setTop (mkF m 6 #[.val (.ref a), .val (.ref sp)] [(.int (1 : Int32)), (.int mc), (.ref a)])) _
    refine XS.iadd X1.here hx rfl (hb hby d_jdk_38_method_25_code_6) rfl ?_
    show Steps p.tables e below (T1.setTop (mkF m 7 #[.val (.ref a), .val (.ref sp)] [(.int (mc + (1 : Int32))), (.ref a)])) _
    refine st2 _ ?_
    show Steps p.tables e below (T2.setTop (mkF m 10 #[.val (.ref a), .val (.ref sp)] [])) _
    refine XS.aloadN X2.here hx rfl (hb hby d_jdk_38_method_25_code_10) rfl rfl ?_
    show Steps p.tables e below (T2.setTop (mkF m 11 #[.val (.ref a), .val (.ref sp)] [(.ref a)])) _
    refine XS.aloadN X2.here hx rfl (hb hby d_jdk_38_method_25_code_11) rfl rfl ?_
    show Steps p.tables e below (T2.setTop (mkF m 12 #[.val (.ref a), .val (.ref sp)] [(.ref sp), (.ref a)])) _
    refine XS.aloadN X2.here hx rfl (hb hby d_jdk_38_method_25_code_12) rfl rfl ?_
    show Steps p.tables e below (T2.setTop (mkF m 13 #[.val (.ref a), .val (.ref sp)] [(.ref a), (.ref sp), (.ref a)])) _
    refine st5 _ ?_
    show Steps p.tables e below (T5.setTop (mkF m 16 #[.val (.ref a), .val (.ref sp)] [(.ref b), (.ref sp), (.ref a)])) _
    refine XS.aloadN X5.here hx rfl (hb hby d_jdk_38_method_25_code_16) rfl rfl ?_
    show Steps p.tables e below (T5.setTop (mkF m 17 #[.val (.ref a), .val (.ref sp)] [(.ref a), (.ref b), (.ref sp), (.ref a)])) _
    refine st7 _ ?_
    show Steps p.tables e below (T7.setTop (mkF m 20 #[.val (.ref a), .val (.ref sp)] [(.int (1 : Int32)), (.ref b), (.ref sp), (.ref a)])) _
    refine st11.trans ?_
    show Steps p.tables e below (T11.setTop (mkF m 23 #[.val (.ref a), .val (.ref sp)] [])) _
    refine XS.iconst X11.here hx rfl (hb hby d_jdk_38_method_25_code_23) ?_
    show Steps p.tables e below (T11.setTop (mkF m 24 #[.val (.ref a), .val (.ref sp)] [(.int (1 : Int32))])) _
    exact retOut X11 hx Bd.returns rfl (Or.inl ⟨rfl, Or.inr (Or.inl rfl), _, rfl⟩) (hb hby d_jdk_38_method_25_code_24) hretL
  · show Q_rmad1 Z a sp mc b kk C h0 n0 _ T11.heap _
    exact ⟨rfl, N12, K13, gm11, gs11, ge11, ga11⟩
def Q_rmhp2 (Z : State) (a : Addr) (sp : Addr) (b : Addr) (mc : Int32) (kk : ClassId) (C : String) (h0 : Heap) (n0 : Nat) (v : Option Value) (h : Heap) (L : List Loc) : Prop := v = none ∧ Fr n0 L ∧ Keep h0 h [a, b] ∧ Fld Z h a "java/util/AbstractList" "modCount" "I" (.int mc) ∧ Fld Z h a "java/util/ArrayList" "size" "I" (.int (3 : Int32)) ∧ Fld Z h a "java/util/ArrayList" "elementData" "[Ljava/lang/Object;" (.ref b) ∧ Arv Z h b kk (.object "java/lang/Object") (10 : Int32) [(.ref sp), (.ref sp), (.ref sp), .null, .null, .null, .null, .null, .null, .null] .null
theorem ef_rmhp2 (m : MethodId) (a : Addr) (sp : Addr) (b : Addr) : entryFrame m #[(.ref a), (.ref sp), (.ref b), (.int (2 : Int32))] 4 = mkF m 0 #[.val (.ref a), .val (.ref sp), .val (.ref b), .val (.int (2 : Int32))] [] := by first | (simp [entryFrame, mkF, argsToLocals, Value.category]; done) | rfl
set_option maxRecDepth 65536 in
set_option maxHeartbeats 40000000 in
theorem rmhp2 (l : Launch) (Z : State) (a0 : Array Value) (hw : ∀ d ∈ tables_1, d.before a0 Z = true) (ws : List Jvm.Cond) (a : Addr) (sp : Addr) (b : Addr) (mc : Int32) (kk : ClassId) (C : String) (h0 : Heap) (n0 : Nat) (O0 : Old Z n0 h0) (Ab : Arv Z h0 b kk (.object "java/lang/Object") (10 : Int32) [(.ref sp), (.ref sp), .null, .null, .null, .null, .null, .null, .null, .null] .null) (Ob : Ovr Z kk "java/lang/Object") (gb : n0 ≤ b) (nab : a ≠ b) (Ea : Exa Z h0 a "java/util/ArrayList") (Fm : Fld Z h0 a "java/util/AbstractList" "modCount" "I" (.int mc)) (Fs : Fld Z h0 a "java/util/ArrayList" "size" "I" (.int (2 : Int32))) (Fe : Fld Z h0 a "java/util/ArrayList" "elementData" "[Ljava/lang/Object;" (.ref b)) (ga : n0 ≤ a) (Esp : Exa Z h0 sp C) (hcast : (Jvm.Cond.castable C "java/lang/Object").before a0 Z = true) :
    MetFree l (⟨"java/util/ArrayList", "add", "(Ljava/lang/Object;[Ljava/lang/Object;I)V"⟩ : MethodName) (head1 (Jvm.Cond.code (⟨"java/util/ArrayList", "add", "(Ljava/lang/Object;[Ljava/lang/Object;I)V"⟩ : MethodName) jdk_38_method_24_code 4 none :: ws) ({ frames := 0, cells := 0, slots := 0, locals := 0 } : Room)) (fun aa U => aa = #[(.ref a), (.ref sp), (.ref b), (.int (2 : Int32))] ∧ Z.Warmed39 U.vm ∧ U.heap = h0) (fun _ _ _ _ _ => True) (fun _ U o U' => ∃ v L, o = .returned v ∧ Q_rmhp2 Z a sp b mc kk C h0 n0 v U'.heap L ∧ FrameEnd U o U' L ({ frames := 0, cells := 0, slots := 0, locals := 0 } : Room).cells ({ frames := 0, cells := 0, slots := 0, locals := 0 } : Room).slots) := by
  refine MetFree.of_bodySF (plainFor_of_name pn7) hisR ?_
  intro p e s m args below meth c s₁ Bd hml0 hP hK
  obtain ⟨rfl, hZ, hh⟩ := hP
  have hx := Bd.exec
  have hby := Bd.bytes
  have hml : c.maxLocals = 4 := hml0
  have hown : s.vm.findClass "java/util/ArrayList" = some m.cls := findClass_of_methodNamed Bd.named
  have hnm := (name_of_methodNamed Bd.named Bd.method).1
  have X0 : Stand p l e ({ frames := 0, cells := 0, slots := 0, locals := 0 } : Room) s m #[(.ref a), (.ref sp), (.ref b), (.int (2 : Int32))] below meth c s₁ [] 0 0 := Stand.of_body Bd
  have e0 : s₁.heap = h0 := by rw [← hh, Bd.state]; rfl
  have N0 := Fr.nil n0
  have K0 : Keep h0 h0 [a, b] := Keep.refl _ _
  have pre0 : ∀ tgt, Steps p.tables e below (s₁.setTop (mkF m 0 #[.val (.ref a), .val (.ref sp), .val (.ref b), .val (.int (2 : Int32))] [])) tgt → Steps p.tables e below (s₁.setTop (entryFrame m #[(.ref a), (.ref sp), (.ref b), (.int (2 : Int32))] 4)) tgt := fun tgt kgo => castTop (ef_rmhp2 m a sp b) kgo
  obtain ⟨cl1, Ar1, q1, S1, M1, H1, G1⟩ := id Ab
  obtain ⟨cl2, Ar2, q2, S2, M2, H2, G2⟩ := id Ab
  have hin2 : ¬ ((2 : Int32) < 0 ∨ cl2.slots.size ≤ ((2 : Int32)).toNatClampNeg) := inb_of S2 ⟨by decide, by decide⟩
  obtain ⟨T3, h3, X3, e3, W3, st3⟩ := stR X0 hx hZ e0 Ar2 (j := (2 : Int32)) hin2 rfl (Sto.ofV Ar2 q2 Ob (Ins.of_exa Esp hcast)) (g := (mkF m 14 #[.val (.ref a), .val (.ref sp), .val (.ref b), .val (.int (2 : Int32))] [(.ref sp), (.int (2 : Int32)), (.ref b)])) rfl rfl (hb hby d_jdk_38_method_24_code_14)
  have V3 : Arv Z h3 b kk (.object "java/lang/Object") (10 : Int32) [(.ref sp), (.ref sp), (.ref sp), .null, .null, .null, .null, .null, .null, .null] .null := Arv.set Ar2 q2 S2 M2 H2 G2 rfl W3 2 rfl (Nat.le_of_ble_eq_true rfl)
  have N4 := Fr.snoc X3 N0 gb
  have Ol4 := O0.wr W3 gb
  have K4 := K0.wr W3 (Or.inl (List.mem_of_getElem? (i := 1) rfl))
  have f5 := (Ea.wr W3)
  have f6 := (Fs.other W3 (Or.inl nab))
  obtain ⟨T7, h7, X7, e7, W7, st7⟩ := putF X3 hx hZ hown (host := "") (Or.inl (ow64 hw)) Via.refl e3 f6 f5 (Or.inl (ow65 hw)) (ow34 hw) (ty := .int) (by decide) rfl rfl (g := (mkF m 19 #[.val (.ref a), .val (.ref sp), .val (.ref b), .val (.int (2 : Int32))] [(.int (3 : Int32)), (.ref a)])) rfl rfl (hb hby d_jdk_38_method_24_code_19)
  have Fw7 := f6.same W7
  have N8 := Fr.snoc X7 N4 ga
  have Ol8 := Ol4.wr W7 ga
  have K8 := K4.wr W7 (Or.inl (List.mem_of_getElem? (i := 0) rfl))
  have f9 := ((Fm.other W3 (Or.inl nab)).other W7 (Or.inr (slot_ne (Or.inl (ow53 hw)) (Or.inl (ow65 hw)) (by decide) (t := .int) (t' := .int) (by decide) (by decide))))
  have f10 := ((Fe.other W3 (Or.inl nab)).other W7 (Or.inr (slot_ne (Or.inl (ow56 hw)) (Or.inl (ow65 hw)) (by decide) (t := (.array (.object "java/lang/Object"))) (t' := .int) (by decide) (by decide))))
  have f11 := (V3.other W7 (Ne.symm nab))
  obtain ⟨fs, hretL, hrun, hended, hW, hsame⟩ := X7.leave (v := none) (fun _ => rfl)
  refine ⟨_, _, pre0 _ ?_, hrun, hended, _, _, rfl, ?_, ⟨_, rfl⟩, hW, hsame.mono (by decide) (by decide)⟩
  · refine XS.iloadN X0.here hx rfl (hb hby d_jdk_38_method_24_code_0) rfl ?_
    show Steps p.tables e below (s₁.setTop (mkF m 1 #[.val (.ref a), .val (.ref sp), .val (.ref b), .val (.int (2 : Int32))] [(.int (2 : Int32))])) _
    refine XS.aloadN X0.here hx rfl (hb hby d_jdk_38_method_24_code_1) rfl rfl ?_
    show Steps p.tables e below (s₁.setTop (mkF m 2 #[.val (.ref a), .val (.ref sp), .val (.ref b), .val (.int (2 : Int32))] [(.ref b), (.int (2 : Int32))])) _
    refine X0.arraylength hx (by rw [e0]; exact Ar1.1) (State.isArrayOf_alike hZ.alike Ar1.2.1) (g := (mkF m 2 #[.val (.ref a), .val (.ref sp), .val (.ref b), .val (.int (2 : Int32))] [(.ref b), (.int (2 : Int32))])) rfl rfl (hb hby d_jdk_38_method_24_code_2) _ ?_
    rw [len_of S1 M1]
    show Steps p.tables e below (s₁.setTop (mkF m 3 #[.val (.ref a), .val (.ref sp), .val (.ref b), .val (.int (2 : Int32))] [(.int (10 : Int32)), (.int (2 : Int32))])) _
    refine XS.icmpYes X0.here hx rfl (pc0 := 3) (pc' := 11) rfl (hb hby d_jdk_38_method_24_code_3) rfl (feq (by decide : ¬ ((2 : Int32) = (10 : Int32)))).2 (by decide) (by decide) ?_
    show Steps p.tables e below (s₁.setTop (mkF m 11 #[.val (.ref a), .val (.ref sp), .val (.ref b), .val (.int (2 : Int32))] [])) _
    refine XS.aloadN X0.here hx rfl (hb hby d_jdk_38_method_24_code_11) rfl rfl ?_
    show Steps p.tables e below (s₁.setTop (mkF m 12 #[.val (.ref a), .val (.ref sp), .val (.ref b), .val (.int (2 : Int32))] [(.ref b)])) _
    refine XS.iloadN X0.here hx rfl (hb hby d_jdk_38_method_24_code_12) rfl ?_
    show Steps p.tables e below (s₁.setTop (mkF m 13 #[.val (.ref a), .val (.ref sp), .val (.ref b), .val (.int (2 : Int32))] [(.int (2 : Int32)), (.ref b)])) _
    refine XS.aloadN X0.here hx rfl (hb hby d_jdk_38_method_24_code_13) rfl rfl ?_
    show Steps p.tables e below (s₁.setTop (mkF m 14 #[.val (.ref a), .val (.ref sp), .val (.ref b), .val (.int (2 : Int32))] [(.ref sp), (.int (2 : Int32)), (.ref b)])) _
    refine st3 _ ?_
    show Steps p.tables e below (T3.setTop (mkF m 15 #[.val (.ref a), .val (.ref sp), .val (.ref b), .val (.int (2 : Int32))] [])) _
    refine XS.aloadN X3.here hx rfl (hb hby d_jdk_38_method_24_code_15) rfl rfl ?_
    show Steps p.tables e below (T3.setTop (mkF m 16 #[.val (.ref a), .val (.ref sp), .val (.ref b), .val (.int (2 : Int32))] [(.ref a)])) _
    refine XS.iloadN X3.here hx rfl (hb hby d_jdk_38_method_24_code_16) rfl ?_
    show Steps p.tables e below (T3.setTop (mkF m 17 #[.val (.ref a), .val (.ref sp), .val (.ref b), .val (.int (2 : Int32))] [(.int (2 : Int32)), (.ref a)])) _
    refine XS.iconst X3.here hx rfl (hb hby d_jdk_38_method_24_code_17) ?_
    show Steps p.tables e below (T3.setTop (mkF m 18 #[.val (.ref a), .val (.ref sp), .val (.ref b), .val (.int (2 : Int32))] [(.int (1 : Int32)), (.int (2 : Int32)), (.ref a)])) _
    refine XS.iadd X3.here hx rfl (hb hby d_jdk_38_method_24_code_18) rfl ?_
    show Steps p.tables e below (T3.setTop (mkF m 19 #[.val (.ref a), .val (.ref sp), .val (.ref b), .val (.int (2 : Int32))] [(.int (3 : Int32)), (.ref a)])) _
    refine st7 _ ?_
    show Steps p.tables e below (T7.setTop (mkF m 22 #[.val (.ref a), .val (.ref sp), .val (.ref b), .val (.int (2 : Int32))] [])) _
    exact X7.returnOut hx Bd.returns (hb hby d_jdk_38_method_24_code_22) hretL
  · show Q_rmhp2 Z a sp b mc kk C h0 n0 _ T7.heap _
    rw [e7]
    exact ⟨rfl, N8, K8, f9, Fw7, f10, f11⟩
def Q_rmad2 (Z : State) (a : Addr) (sp : Addr) (mc : Int32) (b : Addr) (kk : ClassId) (C : String) (h0 : Heap) (n0 : Nat) (v : Option Value) (h : Heap) (L : List Loc) : Prop := v = some (.int (1 : Int32)) ∧ Fr n0 L ∧ Keep h0 h [a, b] ∧ Fld Z h a "java/util/AbstractList" "modCount" "I" (.int (mc + (1 : Int32))) ∧ Fld Z h a "java/util/ArrayList" "size" "I" (.int (3 : Int32)) ∧ Fld Z h a "java/util/ArrayList" "elementData" "[Ljava/lang/Object;" (.ref b) ∧ Arv Z h b kk (.object "java/lang/Object") (10 : Int32) [(.ref sp), (.ref sp), (.ref sp), .null, .null, .null, .null, .null, .null, .null] .null
theorem ef_rmad2 (m : MethodId) (a : Addr) (sp : Addr) : entryFrame m #[(.ref a), (.ref sp)] 2 = mkF m 0 #[.val (.ref a), .val (.ref sp)] [] := by first | (simp [entryFrame, mkF, argsToLocals, Value.category]; done) | rfl
set_option maxRecDepth 65536 in
set_option maxHeartbeats 40000000 in
theorem rmad2 (l : Launch) (Z : State) (a0 : Array Value) (hw : ∀ d ∈ tables_1, d.before a0 Z = true) (ws : List Jvm.Cond) (a : Addr) (sp : Addr) (mc : Int32) (b : Addr) (kk : ClassId) (C : String) (h0 : Heap) (n0 : Nat) (O0 : Old Z n0 h0) (Ab : Arv Z h0 b kk (.object "java/lang/Object") (10 : Int32) [(.ref sp), (.ref sp), .null, .null, .null, .null, .null, .null, .null, .null] .null) (Ob : Ovr Z kk "java/lang/Object") (gb : n0 ≤ b) (nab : a ≠ b) (Ea : Exa Z h0 a "java/util/ArrayList") (Fm : Fld Z h0 a "java/util/AbstractList" "modCount" "I" (.int mc)) (Fs : Fld Z h0 a "java/util/ArrayList" "size" "I" (.int (2 : Int32))) (Fe : Fld Z h0 a "java/util/ArrayList" "elementData" "[Ljava/lang/Object;" (.ref b)) (ga : n0 ≤ a) (Esp : Exa Z h0 sp C) (hcast : (Jvm.Cond.castable C "java/lang/Object").before a0 Z = true) :
    MetFree l (⟨"java/util/ArrayList", "add", "(Ljava/lang/Object;)Z"⟩ : MethodName) (head1 (Jvm.Cond.code (⟨"java/util/ArrayList", "add", "(Ljava/lang/Object;)Z"⟩ : MethodName) jdk_38_method_25_code 2 (some .boolean) :: ws) ({ frames := 1, cells := 0, slots := 0, locals := 15 } : Room)) (fun aa U => aa = #[(.ref a), (.ref sp)] ∧ Z.Warmed39 U.vm ∧ U.heap = h0) (fun _ _ _ _ _ => True) (fun _ U o U' => ∃ v L, o = .returned v ∧ Q_rmad2 Z a sp mc b kk C h0 n0 v U'.heap L ∧ FrameEnd U o U' L ({ frames := 1, cells := 0, slots := 0, locals := 15 } : Room).cells ({ frames := 1, cells := 0, slots := 0, locals := 15 } : Room).slots) := by
  refine MetFree.of_bodySF (plainFor_of_name pn7) hisR ?_
  intro p e s m args below meth c s₁ Bd hml0 hP hK
  obtain ⟨rfl, hZ, hh⟩ := hP
  have hx := Bd.exec
  have hby := Bd.bytes
  have hml : c.maxLocals = 2 := hml0
  have hown : s.vm.findClass "java/util/ArrayList" = some m.cls := findClass_of_methodNamed Bd.named
  have hnm := (name_of_methodNamed Bd.named Bd.method).1
  have X0 : Stand p l e ({ frames := 1, cells := 0, slots := 0, locals := 15 } : Room) s m #[(.ref a), (.ref sp)] below meth c s₁ [] 0 0 := Stand.of_body Bd
  have e0 : s₁.heap = h0 := by rw [← hh, Bd.state]; rfl
  have N0 := Fr.nil n0
  have K0 : Keep h0 h0 [a, b] := Keep.refl _ _
  have pre0 : ∀ tgt, Steps p.tables e below (s₁.setTop (mkF m 0 #[.val (.ref a), .val (.ref sp)] [])) tgt → Steps p.tables e below (s₁.setTop (entryFrame m #[(.ref a), (.ref sp)] 2)) tgt := fun tgt kgo => castTop (ef_rmad2 m a sp) kgo
  obtain ⟨T1, X1, e1, st1⟩ := getF X0 hx hZ hown (host := "") (Or.inl (ow62 hw)) (Via.of (ow63 hw)) e0 Fm (g := (mkF m 2 #[.val (.ref a), .val (.ref sp)] [(.ref a), (.ref a)])) rfl rfl (hb hby d_jdk_38_method_25_code_2)
  obtain ⟨T2, h2, X2, e2, W2, st2⟩ := putF X1 hx hZ hown (host := "") (Or.inl (ow62 hw)) (Via.of (ow63 hw)) e1 Fm Ea (Or.inl (ow53 hw)) (ow34 hw) (ty := .int) (by decide) rfl rfl (g := (mkF m 7 #[.val (.ref a), .val (.ref sp)] [(.int (mc + (1 : Int32))), (.ref a)])) rfl rfl (hb hby d_jdk_38_method_25_code_7)
  have Fw2 := Fm.same W2
  have N3 := Fr.snoc X2 N0 ga
  have Ol3 := O0.wr W2 ga
  have K3 := K0.wr W2 (Or.inl (List.mem_of_getElem? (i := 0) rfl))
  have f4 := (Fe.other W2 (Or.inr (slot_ne (Or.inl (ow56 hw)) (Or.inl (ow53 hw)) (by decide) (t := (.array (.object "java/lang/Object"))) (t' := .int) (by decide) (by decide))))
  obtain ⟨T5, X5, e5, st5⟩ := getF X2 hx hZ hown (host := "") (Or.inl (ow55 hw)) Via.refl e2 f4 (g := (mkF m 13 #[.val (.ref a), .val (.ref sp)] [(.ref a), (.ref sp), (.ref a)])) rfl rfl (hb hby d_jdk_38_method_25_code_13)
  have f6 := (Fs.other W2 (Or.inr (slot_ne (Or.inl (ow65 hw)) (Or.inl (ow53 hw)) (by decide) (t := .int) (t' := .int) (by decide) (by decide))))
  obtain ⟨T7, X7, e7, st7⟩ := getF X5 hx hZ hown (host := "") (Or.inl (ow64 hw)) Via.refl e5 f6 (g := (mkF m 17 #[.val (.ref a), .val (.ref sp)] [(.ref a), (.ref b), (.ref sp), (.ref a)])) rfl rfl (hb hby d_jdk_38_method_25_code_17)
  have f8 := (Ea.wr W2)
  have f9 := (Ab.other W2 (Ne.symm nab))
  have f10 := (Esp.wr W2)
  obtain ⟨cq11, q11, q11'⟩ := f8.cell
  obtain ⟨_, _, ⟨T11, L11, k11, n11⟩, -, X11, ⟨Lc11, hQ11, l11, y11, z11⟩, st11⟩ := X7.privateBack hx (y := (⟨"java/util/ArrayList", "add", "(Ljava/lang/Object;[Ljava/lang/Object;I)V"⟩ : MethodName)) hown (mvT hZ (ow66 hw)) (mvT hZ (ow67 hw)) (mvT hZ (ow69 hw)) (Cond.privateMethod_at (mvP hZ (ow68 hw) (args := #[]))) (mvT hZ (ow70 hw)) (by decide) (backOf (W := 0) (rmhp2 l Z a0 hw [] a sp b (mc + (1 : Int32)) kk C h2 n0 Ol3 f9 Ob gb nab f8 Fw2 f6 f4 ga f10 hcast) hZ (ow70 hw) (ow35 hw) (by decide) (by decide)) (g := (mkF m 20 #[.val (.ref a), .val (.ref sp)] [(.int (2 : Int32)), (.ref b), (.ref sp), (.ref a)])) rfl (by rw [hml]; rfl) (Steps.refl _) (a := a) (by rw [e7]; exact q11) q11' (argsL := [(.ref sp), (.ref b), (.int (2 : Int32))]) (rest := []) (lenOf pd4 rfl) rfl (by show 2 * 0 + _ ≤ _; exact Nat.le_of_eq rfl) (hb hby d_jdk_38_method_25_code_20) (fun _ _ => ⟨rfl, e7, (by decide : 0 + 0 ≤ _), (by decide : 0 + 0 ≤ _)⟩)
  dsimp only [Pt.U, Pt.locs, Pt.cells, Pt.slots] at X11 l11 y11 z11 st11 hQ11
  subst l11 y11 z11
  obtain ⟨rfl, Nq11, kp11, gm11, gs11, ge11, ga11⟩ := hQ11
  have N12 := Fr.app N3 Nq11
  have Ol13 := Ol3.keep kp11 (allS ga (allS gb all0))
  have K13 := K3.trans kp11 (allS (Or.inl (List.mem_of_getElem? (i := 0) rfl)) (allS (Or.inl (List.mem_of_getElem? (i := 1) rfl)) all0))
  obtain ⟨fs, hretL, hrun, hended, hW, hsame⟩ := X11.leave (v := some (.int (1 : Int32))) (fun h => by rw [Bd.returns] at h; cases h)
  refine ⟨_, _, pre0 _ ?_, hrun, hended, _, _, rfl, ?_, ⟨_, rfl⟩, hW, hsame.mono (by decide) (by decide)⟩
  · refine XS.aloadN X0.here hx rfl (hb hby d_jdk_38_method_25_code_0) rfl rfl ?_
    show Steps p.tables e below (s₁.setTop (mkF m 1 #[.val (.ref a), .val (.ref sp)] [(.ref a)])) _
    refine XS.dup X0.here hx rfl (hb hby d_jdk_38_method_25_code_1) rfl rfl ?_
    show Steps p.tables e below (s₁.setTop (mkF m 2 #[.val (.ref a), .val (.ref sp)] [(.ref a), (.ref a)])) _
    refine st1 _ ?_
    show Steps p.tables e below (T1.setTop (mkF m 5 #[.val (.ref a), .val (.ref sp)] [(.int mc), (.ref a)])) _
    refine XS.iconst X1.here hx rfl (hb hby d_jdk_38_method_25_code_5) ?_
    show Steps p.tables e below (T1.setTop (mkF m 6 #[.val (.ref a), .val (.ref sp)] [(.int (1 : Int32)), (.int mc), (.ref a)])) _
    refine XS.iadd X1.here hx rfl (hb hby d_jdk_38_method_25_code_6) rfl ?_
    show Steps p.tables e below (T1.setTop (mkF m 7 #[.val (.ref a), .val (.ref sp)] [(.int (mc + (1 : Int32))), (.ref a)])) _
    refine st2 _ ?_
    show Steps p.tables e below (T2.setTop (mkF m 10 #[.val (.ref a), .val (.ref sp)] [])) _
    refine XS.aloadN X2.here hx rfl (hb hby d_jdk_38_method_25_code_10) rfl rfl ?_
    show Steps p.tables e below (T2.setTop (mkF m 11 #[.val (.ref a), .val (.ref sp)] [(.ref a)])) _
    refine XS.aloadN X2.here hx rfl (hb hby d_jdk_38_method_25_code_11) rfl rfl ?_
    show Steps p.tables e below (T2.setTop (mkF m 12 #[.val (.ref a), .val (.ref sp)] [(.ref sp), (.ref a)])) _
    refine XS.aloadN X2.here hx rfl (hb hby d_jdk_38_method_25_code_12) rfl rfl ?_
    show Steps p.tables e below (T2.setTop (mkF m 13 #[.val (.ref a), .val (.ref sp)] [(.ref a), (.ref sp), (.ref a)])) _
    refine st5 _ ?_
    show Steps p.tables e below (T5.setTop (mkF m 16 #[.val (.ref a), .val (.ref sp)] [(.ref b), (.ref sp), (.ref a)])) _
    refine XS.aloadN X5.here hx rfl (hb hby d_jdk_38_method_25_code_16) rfl rfl ?_
    show Steps p.tables e below (T5.setTop (mkF m 17 #[.val (.ref a), .val (.ref sp)] [(.ref a), (.ref b), (.ref sp), (.ref a)])) _
    refine st7 _ ?_
    show Steps p.tables e below (T7.setTop (mkF m 20 #[.val (.ref a), .val (.ref sp)] [(.int (2 : Int32)), (.ref b), (.ref sp), (.ref a)])) _
    refine st11.trans ?_
    show Steps p.tables e below (T11.setTop (mkF m 23 #[.val (.ref a), .val (.ref sp)] [])) _
    refine XS.iconst X11.here hx rfl (hb hby d_jdk_38_method_25_code_23) ?_
    show Steps p.tables e below (T11.setTop (mkF m 24 #[.val (.ref a), .val (.ref sp)] [(.int (1 : Int32))])) _
    exact retOut X11 hx Bd.returns rfl (Or.inl ⟨rfl, Or.inr (Or.inl rfl), _, rfl⟩) (hb hby d_jdk_38_method_25_code_24) hretL
  · show Q_rmad2 Z a sp mc b kk C h0 n0 _ T11.heap _
    exact ⟨rfl, N12, K13, gm11, gs11, ge11, ga11⟩
theorem own_nsr {Z : State} {a0 : Array Value} {O K : String} {n : Nat} (w : (Jvm.Cond.noSuperclass O).before a0 Z = true) (wk : (Jvm.Cond.instantiable K n).before a0 Z = true) (hn : O ≠ K) : NS Z O K := by
  obtain ⟨c, k, h1, h2, h3, -, -⟩ := Cond.noSuperclass_spec w
  obtain ⟨t, kt, g1, -⟩ := Cond.instantiable_spec wk
  have ne := ids_ne h1 g1 hn
  refine ⟨c, t, h1, g1, fun fuel => ?_⟩
  cases fuel with
  | zero => rfl
  | succ f => simp [Vm.isSubclassAux, ne, h2, h3]
theorem own_nsno {Z : State} {a0 : Array Value} {C S K : String} {n : Nat} (w : (Jvm.Cond.superclass C S).before a0 Z = true) (wk : (Jvm.Cond.instantiable K n).before a0 Z = true) (m : NS Z C K) (hn : C ≠ K) : ∃ c t, Z.vm.findClass C = some c ∧ Z.vm.findClass K = some t ∧ Z.vm.assignable c t = false := by
  obtain ⟨c, t, h0, g0, n3⟩ := m
  obtain ⟨p, k, kp, h1, h2, h3, h4, h5, -, h7⟩ := Cond.superclass_spec h0 w
  obtain ⟨t', kt, g1, g2, g3, g4, -⟩ := Cond.instantiable_spec wk
  cases g0.symm.trans g1
  have ne := ids_ne h0 g0 hn
  have gi : kt.isInterface = false := (Bool.or_eq_false_iff.mp g4).1
  refine ⟨c, t, h0, g0, ?_⟩
  show Z.vm.assignableAux (255 + 1) c t = false
  simp [Vm.assignableAux, ne, h2, g2, h5, g3, gi, Vm.isSubclass, n3]
theorem own_ns12 {a0 : Array Value} {Z : State} (hw : ∀ d ∈ tables_1, d.before a0 Z = true) : ∃ c t, Z.vm.findClass "java/util/ArrayList" = some c ∧ Z.vm.findClass "java/util/ImmutableCollections$List12" = some t ∧ Z.vm.assignable c t = false := own_nsno (ow104 hw) (ow207 hw) (NS.step (ow104 hw) (NS.step (ow105 hw) (NS.step (ow106 hw) (own_nsr (ow107 hw) (ow207 hw) (by decide)) (by decide)) (by decide)) (by decide)) (by decide)
theorem own_nsN {a0 : Array Value} {Z : State} (hw : ∀ d ∈ tables_1, d.before a0 Z = true) : ∃ c t, Z.vm.findClass "java/util/ArrayList" = some c ∧ Z.vm.findClass "java/util/ImmutableCollections$ListN" = some t ∧ Z.vm.assignable c t = false := own_nsno (ow104 hw) (ow163 hw) (NS.step (ow104 hw) (NS.step (ow105 hw) (NS.step (ow106 hw) (own_nsr (ow107 hw) (ow163 hw) (by decide)) (by decide)) (by decide)) (by decide)) (by decide)
def MM (Z : State) (C : String) (mr : Addr) : Prop := ∃ (c : ClassId) (k : Class), Z.vm.findClass C = some c ∧ Z.vm.classes[c]? = some k ∧ k.mirror = some mr
theorem own_mir {Z s : State} {args : Array Value} {C : String} {mr : Addr} (hZ : Z.Warmed39 s.vm) (M : MM Z C mr) : (Term.mirror C).eval args s none [] s = some (.ref mr) := by
  obtain ⟨cc, kc, m1, m2, m3⟩ := M
  obtain ⟨k', q, ek⟩ := hZ.alike.2.2 _ _ m2
  have f : s.vm.findClass C = some cc := by rw [hZ.alike.findClass]; exact m1
  have k3 : k'.mirror = some mr := by rw [ek]; exact m3
  simp only [Term.eval, f, q, k3, Option.bind_eq_bind, Option.bind_some, Option.pure_def]
theorem own_gcls {p : Program} {l : Launch} {e : Env} {R : Room} {s : State} {m : MethodId} {args : Array Value} {below : List Frame} {meth : Method} {c : Code} {T : State} {locs : List Loc} {cells slots : Nat} {Z : State} {h : Heap} {a : Addr} (X : Stand p l e R s m args below meth c T locs cells slots) (hx : p.tables.exec = Jvm.exec) (hZ : Z.Warmed39 s.vm) {a0 : Array Value} {own C : String} {index : Nat} (hown : s.vm.findClass own = some m.cls)
    (w1 : (Cond.methodLink own index ⟨"java/lang/Object", "getClass", "()Ljava/lang/Class;"⟩).before a0 Z = true) (w2 : (Cond.declares ⟨"java/lang/Object", "getClass", "()Ljava/lang/Class;"⟩).before a0 Z = true) (w3 : (Cond.noSuperclass "java/lang/Object").before a0 Z = true) (w4 : (Cond.selects C ⟨"java/lang/Object", "getClass", "()Ljava/lang/Class;"⟩ ⟨"java/lang/Object", "getClass", "()Ljava/lang/Class;"⟩).before a0 Z = true)
    (w5 : (Cond.instanceMethod ⟨"java/lang/Object", "getClass", "()Ljava/lang/Class;"⟩).before a0 Z = true) (w6 : (Cond.native ⟨"java/lang/Object", "getClass", "()Ljava/lang/Class;"⟩).before a0 Z = true) (eT : T.heap = h) (E : Exa Z h a C) {mr : Addr} (M : MM Z C mr)
    {g : JFrame} (hg : g.method = m) (hsize : g.locals.size = c.maxLocals) {rest : List Value} (hs : g.stack = .ref a :: rest) (hd : decode c.code g.pc = .ok (.invokevirtual index, 3)) (hf : 1 ≤ R.frames) {W : Nat} (hW : 2 * g.monitorRoom + (rest.map fun v => v.category).sum ≤ W) (hl : W + (nativeFrameWords "java/lang/Object" "getClass" 1 + 11) ≤ R.locals) :
    ∃ T', Stand p l e R s m args below meth c T' locs cells slots ∧ T'.heap = h ∧ ∀ target, Steps p.tables e below (T'.setTop { g with pc := g.pc + 3, stack := .ref mr :: rest }) target → Steps p.tables e below (T.setTop g) target := by
  obtain ⟨cB, kB, i1, i2, i3⟩ := isOf hZ eT E
  obtain ⟨cc, kc, m1, m2, m3⟩ := M
  rw [hZ.alike.findClass] at i1
  cases i1.symm.trans m1
  obtain ⟨k', q, ek⟩ := hZ.alike.2.2 _ _ m2
  obtain ⟨vm', X', st⟩ := X.getClassOf hx hown (mvT hZ w1) (mvT hZ w2) (nf_top (args := #[]) (mvT hZ w3)) (mvT hZ w4) (mvT hZ w5) (mvT hZ w6) (by rw [hZ.alike.findClass]; exact m1) i3 q (by rw [ek]; exact m3) hg hsize hs hd hf (by omega)
  exact ⟨_, X', eT, st⟩
theorem mvLN {Z s : State} {a0 args : Array Value} {own host : String} {y : MethodName} {index : Nat} (hZ : Z.Warmed39 s.vm) (w : (Jvm.Cond.methodLinkNest own index y host).before a0 Z = true) : (Jvm.Cond.methodLinkNest own index y host).before args s = true := (Cond.methodLinkNest_wide hZ w :)
theorem own_arv0 {args : Array Value} {s : State} {t : Term} {a : Addr} {ty : FieldType} {dv : Value} (hf : Fit s) (ev : t.eval args s none [] s = some (.ref a)) (ha : (Jvm.Cond.arrayOf t ty).value args s none s [] = some true) (hl : (Jvm.Cond.eq (.length t) (.int (0 : Int32))).value args s none s [] = some true) : ∃ k, Arv s s.heap a k ty (0 : Int32) [] dv := by
  obtain ⟨cl, A⟩ := Arr.start ev ha
  obtain ⟨x, y, h1, h2, -, -⟩ := cmp_v (Or.inl hl)
  cases h2.symm.trans (Term.int_eval 0)
  obtain ⟨a', cell, e1, e2, e3⟩ := Term.length_spec h1
  cases ev.symm.trans e1
  have hA : s.arrayAt? a = some cl := Arr.fin (Vm.Alike.refl _) A
  cases hA.symm.trans e2
  subst e3
  have z : cl.slots.size.toInt32 = 0 := by
    rw [Cond.value, h1, Term.int_eval] at hl
    simpa using hl
  have q : cl.slots.size < 2 ^ 31 := by
    by_cases q : cl.slots.size < 2 ^ 31
    · exact q
    · simp [Term.eval, ev, hA] at h1
      omega
  exact ⟨_, Arv.start hf A q z (by decide) rfl trivial⟩
def iz (z : Int32) : Int32 := if z = 0 then 1 else 0
def adm (x y : Int32) : Int32 := if x = 0 then 0 else if y = 0 then 0 else 1
/-- the ArrayList at a, of 0 to 3 elements; z = 1: it is empty -/
def LK (Z : State) (a0 : Array Value) (h : Heap) (a : Addr) (z : Int32) : Prop := (z = 1 ∧ Exa Z h a "java/util/ArrayList" ∧ Fld Z h a "java/util/ArrayList" "size" "I" (.int (0 : Int32))) ∨ (∃ (sp : Addr) (C : String) (b : Addr) (kk : ClassId), z = 0 ∧ Exa Z h a "java/util/ArrayList" ∧ Fld Z h a "java/util/ArrayList" "size" "I" (.int (1 : Int32)) ∧ Fld Z h a "java/util/ArrayList" "elementData" "[Ljava/lang/Object;" (.ref b) ∧ Arv Z h b kk (.object "java/lang/Object") (10 : Int32) [(.ref sp), .null, .null, .null, .null, .null, .null, .null, .null, .null] .null ∧ Exa Z h b "[Ljava/lang/Object;" ∧ Exa Z h sp C ∧ (Jvm.Cond.castable C "java/lang/Object").before a0 Z = true) ∨ (∃ (sp : Addr) (C : String) (b : Addr) (kk : ClassId), z = 0 ∧ Exa Z h a "java/util/ArrayList" ∧ Fld Z h a "java/util/ArrayList" "size" "I" (.int (2 : Int32)) ∧ Fld Z h a "java/util/ArrayList" "elementData" "[Ljava/lang/Object;" (.ref b) ∧ Arv Z h b kk (.object "java/lang/Object") (10 : Int32) [(.ref sp), (.ref sp), .null, .null, .null, .null, .null, .null, .null, .null] .null ∧ Exa Z h b "[Ljava/lang/Object;" ∧ Exa Z h sp C ∧ (Jvm.Cond.castable C "java/lang/Object").before a0 Z = true) ∨ (∃ (sp : Addr) (C : String) (b : Addr) (kk : ClassId), z = 0 ∧ Exa Z h a "java/util/ArrayList" ∧ Fld Z h a "java/util/ArrayList" "size" "I" (.int (3 : Int32)) ∧ Fld Z h a "java/util/ArrayList" "elementData" "[Ljava/lang/Object;" (.ref b) ∧ Arv Z h b kk (.object "java/lang/Object") (10 : Int32) [(.ref sp), (.ref sp), (.ref sp), .null, .null, .null, .null, .null, .null, .null] .null ∧ Exa Z h b "[Ljava/lang/Object;" ∧ Exa Z h sp C ∧ (Jvm.Cond.castable C "java/lang/Object").before a0 Z = true)
theorem LK.keep {Z : State} {a0 : Array Value} {h h' : Heap} {a : Addr} {z : Int32} (F : LK Z a0 h a z) (K : Keep h h' []) : LK Z a0 h' a z := by
  rcases F with ⟨q, e, f⟩ | ⟨sp, C, b, kk, q, e, f1, f2, f3, f4, f5, f6⟩ | ⟨sp, C, b, kk, q, e, f1, f2, f3, f4, f5, f6⟩ | ⟨sp, C, b, kk, q, e, f1, f2, f3, f4, f5, f6⟩
  · exact Or.inl ⟨q, e.keep K, f.keep K nin0⟩
  · exact Or.inr (Or.inl ⟨sp, C, b, kk, q, e.keep K, f1.keep K nin0, f2.keep K nin0, f3.keep K nin0, f4.keep K, f5.keep K, f6⟩)
  · exact Or.inr (Or.inr (Or.inl ⟨sp, C, b, kk, q, e.keep K, f1.keep K nin0, f2.keep K nin0, f3.keep K nin0, f4.keep K, f5.keep K, f6⟩))
  · exact Or.inr (Or.inr (Or.inr ⟨sp, C, b, kk, q, e.keep K, f1.keep K nin0, f2.keep K nin0, f3.keep K nin0, f4.keep K, f5.keep K, f6⟩))
/-- the immutable list at r; z = 1: it is empty -/
def LE (Z : State) (h : Heap) (r : Addr) (z : Int32) : Prop := (Exa Z h r "java/util/ImmutableCollections$List12" ∧ z = 0) ∨ ∃ (t : Addr) (kt : ClassId) (n : Int32) (vs : List Value), Exa Z h r "java/util/ImmutableCollections$ListN" ∧ Fld Z h r "java/util/ImmutableCollections$ListN" "elements" "[Ljava/lang/Object;" (.ref t) ∧ Arv Z h t kt (.object "java/lang/Object") n vs .null ∧ z = iz n
theorem LE.keep {Z : State} {h h' : Heap} {r : Addr} {z : Int32} (F : LE Z h r z) (K : Keep h h' []) : LE Z h' r z := by
  rcases F with ⟨e, q⟩ | ⟨t, kt, n, vs, e, f, g, q⟩
  · exact Or.inl ⟨e.keep K, q⟩
  · exact Or.inr ⟨t, kt, n, vs, e.keep K, f.keep K nin0, g.keep K nin0, q⟩
theorem LE.wr {Z : State} {a0 : Array Value} {h h' : Heap} {r a : Addr} {z : Int32} {C : String} {n : Nat} {sl : Nat} {v : Value} (F : LE Z h r z) (W : Wr h h' a sl v) (E : Exa Z h a C) (w : (Jvm.Cond.instantiable C n).before a0 Z = true) (hn : "java/util/ImmutableCollections$ListN" ≠ C) : LE Z h' r z := by
  rcases F with ⟨e, q⟩ | ⟨t, kt, n, vs, e, f, g, q⟩
  · exact Or.inl ⟨e.wr W, q⟩
  · exact Or.inr ⟨t, kt, n, vs, e.wr W, f.other W (Or.inl (Exa.ne e E hn)), g.other W (Ne.symm (Exa.neArv E g w)), q⟩
theorem own_and3 (x : Int32) : x &&& 3 = 0 ∨ x &&& 3 = 1 ∨ x &&& 3 = 2 ∨ x &&& 3 = 3 := by
  have h : (x &&& 3).toBitVec.toNat < 4 := by
    simp only [Int32.toBitVec_and, BitVec.toNat_and]
    exact Nat.lt_succ_of_le Nat.and_le_right
  have e : (x &&& 3) = Int32.ofNat (x &&& 3).toBitVec.toNat := by
    apply Int32.toBitVec_inj.mp
    show _ = BitVec.ofNat 32 _
    rw [BitVec.ofNat_toNat]; simp
  generalize (x &&& 3).toBitVec.toNat = k at h e
  rw [e]
  have : k = 0 ∨ k = 1 ∨ k = 2 ∨ k = 3 := by omega
  rcases this with q | q | q | q <;> subst q <;> decide
theorem d_jdk_38_method_9_code_0 : decode jdk_38_method_9_code 0 = .ok (.aload_n 0, 1) := by decide +kernel
theorem d_jdk_38_method_9_code_1 : decode jdk_38_method_9_code 1 = .ok (.getfield 48, 3) := by decide +kernel
theorem d_jdk_38_method_9_code_4 : decode jdk_38_method_9_code 4 = .ok (.ifCond .ne 7, 3) := by decide +kernel
theorem d_jdk_38_method_9_code_7 : decode jdk_38_method_9_code 7 = .ok (.iconst 1, 1) := by decide +kernel
theorem d_jdk_38_method_9_code_8 : decode jdk_38_method_9_code 8 = .ok (.goto 4, 3) := by decide +kernel
theorem d_jdk_38_method_9_code_11 : decode jdk_38_method_9_code 11 = .ok (.iconst 0, 1) := by decide +kernel
theorem d_jdk_38_method_9_code_12 : decode jdk_38_method_9_code 12 = .ok (.ireturn, 1) := by decide +kernel
def Q_rmemp (Z : State) (a : Addr) (sz : Int32) (h0 : Heap) (n0 : Nat) (v : Option Value) (h : Heap) (L : List Loc) : Prop := v = some (.int (iz sz)) ∧ Fr n0 L ∧ h = h0
theorem ef_rmemp (m : MethodId) (a : Addr) : entryFrame m #[(.ref a)] 1 = mkF m 0 #[.val (.ref a)] [] := by first | (simp [entryFrame, mkF, argsToLocals, Value.category]; done) | rfl
set_option maxRecDepth 65536 in
set_option maxHeartbeats 40000000 in
theorem rmemp (l : Launch) (Z : State) (a0 : Array Value) (hw : ∀ d ∈ tables_1, d.before a0 Z = true) (ws : List Jvm.Cond) (a : Addr) (sz : Int32) (h0 : Heap) (n0 : Nat) (O0 : Old Z n0 h0) (Fs : Fld Z h0 a "java/util/ArrayList" "size" "I" (.int sz)) :
    MetFree l (⟨"java/util/ArrayList", "isEmpty", "()Z"⟩ : MethodName) (head1 (Jvm.Cond.code (⟨"java/util/ArrayList", "isEmpty", "()Z"⟩ : MethodName) jdk_38_method_9_code 1 (some .boolean) :: ws) ({ frames := 0, cells := 0, slots := 0, locals := 0 } : Room)) (fun aa U => aa = #[(.ref a)] ∧ Z.Warmed39 U.vm ∧ U.heap = h0) (fun _ _ _ _ _ => True) (fun _ U o U' => ∃ v L, o = .returned v ∧ Q_rmemp Z a sz h0 n0 v U'.heap L ∧ FrameEnd U o U' L ({ frames := 0, cells := 0, slots := 0, locals := 0 } : Room).cells ({ frames := 0, cells := 0, slots := 0, locals := 0 } : Room).slots) := by
  refine MetFree.of_bodySF (plainFor_of_name pn7) hisR ?_
  intro p e s m args below meth c s₁ Bd hml0 hP hK
  obtain ⟨rfl, hZ, hh⟩ := hP
  have hx := Bd.exec
  have hby := Bd.bytes
  have hml : c.maxLocals = 1 := hml0
  have hown : s.vm.findClass "java/util/ArrayList" = some m.cls := findClass_of_methodNamed Bd.named
  have hnm := (name_of_methodNamed Bd.named Bd.method).1
  have X0 : Stand p l e ({ frames := 0, cells := 0, slots := 0, locals := 0 } : Room) s m #[(.ref a)] below meth c s₁ [] 0 0 := Stand.of_body Bd
  have e0 : s₁.heap = h0 := by rw [← hh, Bd.state]; rfl
  have N0 := Fr.nil n0
  have K0 : Keep h0 h0 [] := Keep.refl _ _
  have pre0 : ∀ tgt, Steps p.tables e below (s₁.setTop (mkF m 0 #[.val (.ref a)] [])) tgt → Steps p.tables e below (s₁.setTop (entryFrame m #[(.ref a)] 1)) tgt := fun tgt kgo => castTop (ef_rmemp m a) kgo
  obtain ⟨T1, X1, e1, st1⟩ := getF X0 hx hZ hown (host := "") (Or.inl (ow64 hw)) Via.refl e0 Fs (g := (mkF m 1 #[.val (.ref a)] [(.ref a)])) rfl rfl (hb hby d_jdk_38_method_9_code_1)
  have pre2 : ∀ tgt, Steps p.tables e below (T1.setTop (mkF m 4 #[.val (.ref a)] [(.int sz)])) tgt → Steps p.tables e below (s₁.setTop (entryFrame m #[(.ref a)] 1)) tgt := by
    intro tgt kgo
    refine pre0 _ ?_
    refine XS.aloadN X0.here hx rfl (hb hby d_jdk_38_method_9_code_0) rfl rfl ?_
    show Steps p.tables e below (s₁.setTop (mkF m 1 #[.val (.ref a)] [(.ref a)])) _
    refine st1 _ ?_
    show Steps p.tables e below (T1.setTop (mkF m 4 #[.val (.ref a)] [(.int sz)])) _
    exact kgo
  by_cases hc4_3 : sz = (0 : Int32)
  · obtain ⟨fs, hretL, hrun, hended, hW, hsame⟩ := X1.leave (v := some (.int (1 : Int32))) (fun h => by rw [Bd.returns] at h; cases h)
    refine ⟨_, _, pre2 _ ?_, hrun, hended, _, _, rfl, ?_, ⟨_, rfl⟩, hW, hsame.mono (by decide) (by decide)⟩
    · refine XS.ifNo X1.here hx rfl (hb hby d_jdk_38_method_9_code_4) rfl ((if0 _ _).trans (teq hc4_3).2) ?_
      show Steps p.tables e below (T1.setTop (mkF m 7 #[.val (.ref a)] [])) _
      refine XS.iconst X1.here hx rfl (hb hby d_jdk_38_method_9_code_7) ?_
      show Steps p.tables e below (T1.setTop (mkF m 8 #[.val (.ref a)] [(.int (1 : Int32))])) _
      refine XS.goto X1.here hx rfl (pc0 := 8) (pc' := 12) rfl (hb hby d_jdk_38_method_9_code_8) (by decide) (by decide) ?_
      show Steps p.tables e below (T1.setTop (mkF m 12 #[.val (.ref a)] [(.int (1 : Int32))])) _
      exact retOut X1 hx Bd.returns rfl (Or.inl ⟨rfl, Or.inr (Or.inl rfl), _, rfl⟩) (hb hby d_jdk_38_method_9_code_12) hretL
    · show Q_rmemp Z a sz h0 n0 _ T1.heap _
      rw [e1]
      exact ⟨by simp only [iz, if_pos hc4_3], N0, rfl⟩
  · obtain ⟨fs, hretL, hrun, hended, hW, hsame⟩ := X1.leave (v := some (.int (0 : Int32))) (fun h => by rw [Bd.returns] at h; cases h)
    refine ⟨_, _, pre2 _ ?_, hrun, hended, _, _, rfl, ?_, ⟨_, rfl⟩, hW, hsame.mono (by decide) (by decide)⟩
    · refine XS.ifYes X1.here hx rfl (pc0 := 4) (pc' := 11) rfl (hb hby d_jdk_38_method_9_code_4) rfl ((if0 _ _).trans (feq hc4_3).2) (by decide) (by decide) ?_
      show Steps p.tables e below (T1.setTop (mkF m 11 #[.val (.ref a)] [])) _
      refine XS.iconst X1.here hx rfl (hb hby d_jdk_38_method_9_code_11) ?_
      show Steps p.tables e below (T1.setTop (mkF m 12 #[.val (.ref a)] [(.int (0 : Int32))])) _
      exact retOut X1 hx Bd.returns rfl (Or.inl ⟨rfl, Or.inr (Or.inl rfl), _, rfl⟩) (hb hby d_jdk_38_method_9_code_12) hretL
    · show Q_rmemp Z a sz h0 n0 _ T1.heap _
      rw [e1]
      exact ⟨by simp only [iz, if_neg hc4_3], N0, rfl⟩
theorem d_jdk_31_method_10_code_0 : decode jdk_31_method_10_code 0 = .ok (.aload_n 0, 1) := by decide +kernel
theorem d_jdk_31_method_10_code_1 : decode jdk_31_method_10_code 1 = .ok (.ifnonnull 11, 3) := by decide +kernel
theorem d_jdk_31_method_10_code_12 : decode jdk_31_method_10_code 12 = .ok (.aload_n 0, 1) := by decide +kernel
theorem d_jdk_31_method_10_code_13 : decode jdk_31_method_10_code 13 = .ok (.areturn, 1) := by decide +kernel
def Q_rmnn (Z : State) (b : Addr) (h0 : Heap) (n0 : Nat) (v : Option Value) (h : Heap) (L : List Loc) : Prop := v = some (.ref b) ∧ Fr n0 L ∧ h = h0
theorem ef_rmnn (m : MethodId) (b : Addr) : entryFrame m #[(.ref b)] 1 = mkF m 0 #[.val (.ref b)] [] := by first | (simp [entryFrame, mkF, argsToLocals, Value.category]; done) | rfl
set_option maxRecDepth 65536 in
set_option maxHeartbeats 40000000 in
theorem rmnn (l : Launch) (Z : State) (a0 : Array Value) (hw : ∀ d ∈ tables_1, d.before a0 Z = true) (ws : List Jvm.Cond) (b : Addr) (h0 : Heap) (n0 : Nat) (O0 : Old Z n0 h0) :
    MetFree l (⟨"java/util/Objects", "requireNonNull", "(Ljava/lang/Object;)Ljava/lang/Object;"⟩ : MethodName) (head1 (Jvm.Cond.code (⟨"java/util/Objects", "requireNonNull", "(Ljava/lang/Object;)Ljava/lang/Object;"⟩ : MethodName) jdk_31_method_10_code 1 (some (.object "java/lang/Object")) :: ws) ({ frames := 0, cells := 0, slots := 0, locals := 0 } : Room)) (fun aa U => aa = #[(.ref b)] ∧ Z.Warmed39 U.vm ∧ U.heap = h0) (fun _ _ _ _ _ => True) (fun _ U o U' => ∃ v L, o = .returned v ∧ Q_rmnn Z b h0 n0 v U'.heap L ∧ FrameEnd U o U' L ({ frames := 0, cells := 0, slots := 0, locals := 0 } : Room).cells ({ frames := 0, cells := 0, slots := 0, locals := 0 } : Room).slots) := by
  refine MetFree.of_bodySF (plainFor_of_name pn8) hisR ?_
  intro p e s m args below meth c s₁ Bd hml0 hP hK
  obtain ⟨rfl, hZ, hh⟩ := hP
  have hx := Bd.exec
  have hby := Bd.bytes
  have hml : c.maxLocals = 1 := hml0
  have hown : s.vm.findClass "java/util/Objects" = some m.cls := findClass_of_methodNamed Bd.named
  have hnm := (name_of_methodNamed Bd.named Bd.method).1
  have X0 : Stand p l e ({ frames := 0, cells := 0, slots := 0, locals := 0 } : Room) s m #[(.ref b)] below meth c s₁ [] 0 0 := Stand.of_body Bd
  have e0 : s₁.heap = h0 := by rw [← hh, Bd.state]; rfl
  have N0 := Fr.nil n0
  have K0 : Keep h0 h0 [] := Keep.refl _ _
  have pre0 : ∀ tgt, Steps p.tables e below (s₁.setTop (mkF m 0 #[.val (.ref b)] [])) tgt → Steps p.tables e below (s₁.setTop (entryFrame m #[(.ref b)] 1)) tgt := fun tgt kgo => castTop (ef_rmnn m b) kgo
  obtain ⟨fs, hretL, hrun, hended, hW, hsame⟩ := X0.leave (v := some (.ref b)) (fun h => by rw [Bd.returns] at h; cases h)
  refine ⟨_, _, pre0 _ ?_, hrun, hended, _, _, rfl, ?_, ⟨_, rfl⟩, hW, hsame.mono (by decide) (by decide)⟩
  · refine XS.aloadN X0.here hx rfl (hb hby d_jdk_31_method_10_code_0) rfl rfl ?_
    show Steps p.tables e below (s₁.setTop (mkF m 1 #[.val (.ref b)] [(.ref b)])) _
    refine XS.ifnonnullYes X0.here hx rfl (pc0 := 1) (pc' := 12) rfl (hb hby d_jdk_31_method_10_code_1) rfl (by decide) (by decide) ?_
    show Steps p.tables e below (s₁.setTop (mkF m 12 #[.val (.ref b)] [])) _
    refine XS.aloadN X0.here hx rfl (hb hby d_jdk_31_method_10_code_12) rfl rfl ?_
    show Steps p.tables e below (s₁.setTop (mkF m 13 #[.val (.ref b)] [(.ref b)])) _
    exact retOut X0 hx Bd.returns rfl (Or.inr (Or.inr (Or.inr (Or.inr ⟨rfl, rfl, rfl⟩)))) (hb hby d_jdk_31_method_10_code_13) hretL
  · show Q_rmnn Z b h0 n0 _ s₁.heap _
    rw [e0]
    exact ⟨rfl, N0, rfl⟩
theorem d_jdk_44_method_4_code_0 : decode jdk_44_method_4_code 0 = .ok (.iconst 0, 1) := by decide +kernel
theorem d_jdk_44_method_4_code_1 : decode jdk_44_method_4_code 1 = .ok (.ireturn, 1) := by decide +kernel
def Q_rme12 (Z : State) (a : Addr) (h0 : Heap) (n0 : Nat) (v : Option Value) (h : Heap) (L : List Loc) : Prop := v = some (.int (0 : Int32)) ∧ Fr n0 L ∧ h = h0
theorem ef_rme12 (m : MethodId) (a : Addr) : entryFrame m #[(.ref a)] 1 = mkF m 0 #[.val (.ref a)] [] := by first | (simp [entryFrame, mkF, argsToLocals, Value.category]; done) | rfl
set_option maxRecDepth 65536 in
set_option maxHeartbeats 40000000 in
theorem rme12 (l : Launch) (Z : State) (a0 : Array Value) (hw : ∀ d ∈ tables_1, d.before a0 Z = true) (ws : List Jvm.Cond) (a : Addr) (h0 : Heap) (n0 : Nat) (O0 : Old Z n0 h0) :
    MetFree l (⟨"java/util/ImmutableCollections$List12", "isEmpty", "()Z"⟩ : MethodName) (head1 (Jvm.Cond.code (⟨"java/util/ImmutableCollections$List12", "isEmpty", "()Z"⟩ : MethodName) jdk_44_method_4_code 1 (some .boolean) :: ws) ({ frames := 0, cells := 0, slots := 0, locals := 0 } : Room)) (fun aa U => aa = #[(.ref a)] ∧ Z.Warmed39 U.vm ∧ U.heap = h0) (fun _ _ _ _ _ => True) (fun _ U o U' => ∃ v L, o = .returned v ∧ Q_rme12 Z a h0 n0 v U'.heap L ∧ FrameEnd U o U' L ({ frames := 0, cells := 0, slots := 0, locals := 0 } : Room).cells ({ frames := 0, cells := 0, slots := 0, locals := 0 } : Room).slots) := by
  refine MetFree.of_bodySF (plainFor_of_name pn9) hisR ?_
  intro p e s m args below meth c s₁ Bd hml0 hP hK
  obtain ⟨rfl, hZ, hh⟩ := hP
  have hx := Bd.exec
  have hby := Bd.bytes
  have hml : c.maxLocals = 1 := hml0
  have hown : s.vm.findClass "java/util/ImmutableCollections$List12" = some m.cls := findClass_of_methodNamed Bd.named
  have hnm := (name_of_methodNamed Bd.named Bd.method).1
  have X0 : Stand p l e ({ frames := 0, cells := 0, slots := 0, locals := 0 } : Room) s m #[(.ref a)] below meth c s₁ [] 0 0 := Stand.of_body Bd
  have e0 : s₁.heap = h0 := by rw [← hh, Bd.state]; rfl
  have N0 := Fr.nil n0
  have K0 : Keep h0 h0 [] := Keep.refl _ _
  have pre0 : ∀ tgt, Steps p.tables e below (s₁.setTop (mkF m 0 #[.val (.ref a)] [])) tgt → Steps p.tables e below (s₁.setTop (entryFrame m #[(.ref a)] 1)) tgt := fun tgt kgo => castTop (ef_rme12 m a) kgo
  obtain ⟨fs, hretL, hrun, hended, hW, hsame⟩ := X0.leave (v := some (.int (0 : Int32))) (fun h => by rw [Bd.returns] at h; cases h)
  refine ⟨_, _, pre0 _ ?_, hrun, hended, _, _, rfl, ?_, ⟨_, rfl⟩, hW, hsame.mono (by decide) (by decide)⟩
  · refine XS.iconst X0.here hx rfl (hb hby d_jdk_44_method_4_code_0) ?_
    show Steps p.tables e below (s₁.setTop (mkF m 1 #[.val (.ref a)] [(.int (0 : Int32))])) _
    exact retOut X0 hx Bd.returns rfl (Or.inl ⟨rfl, Or.inr (Or.inl rfl), _, rfl⟩) (hb hby d_jdk_44_method_4_code_1) hretL
  · show Q_rme12 Z a h0 n0 _ s₁.heap _
    rw [e0]
    exact ⟨rfl, N0, rfl⟩
theorem d_jdk_45_method_2_code_0 : decode jdk_45_method_2_code 0 = .ok (.aload_n 0, 1) := by decide +kernel
theorem d_jdk_45_method_2_code_1 : decode jdk_45_method_2_code 1 = .ok (.getfield 7, 3) := by decide +kernel
theorem d_jdk_45_method_2_code_4 : decode jdk_45_method_2_code 4 = .ok (.arraylength, 1) := by decide +kernel
theorem d_jdk_45_method_2_code_5 : decode jdk_45_method_2_code 5 = .ok (.ifCond .ne 7, 3) := by decide +kernel
theorem d_jdk_45_method_2_code_8 : decode jdk_45_method_2_code 8 = .ok (.iconst 1, 1) := by decide +kernel
theorem d_jdk_45_method_2_code_9 : decode jdk_45_method_2_code 9 = .ok (.goto 4, 3) := by decide +kernel
theorem d_jdk_45_method_2_code_12 : decode jdk_45_method_2_code 12 = .ok (.iconst 0, 1) := by decide +kernel
theorem d_jdk_45_method_2_code_13 : decode jdk_45_method_2_code 13 = .ok (.ireturn, 1) := by decide +kernel
def Q_rmeN (Z : State) (a : Addr) (tb : Addr) (kt : ClassId) (ln : Int32) (vs : List Value) (h0 : Heap) (n0 : Nat) (v : Option Value) (h : Heap) (L : List Loc) : Prop := v = some (.int (iz ln)) ∧ Fr n0 L ∧ h = h0
theorem ef_rmeN (m : MethodId) (a : Addr) : entryFrame m #[(.ref a)] 1 = mkF m 0 #[.val (.ref a)] [] := by first | (simp [entryFrame, mkF, argsToLocals, Value.category]; done) | rfl
set_option maxRecDepth 65536 in
set_option maxHeartbeats 40000000 in
theorem rmeN (l : Launch) (Z : State) (a0 : Array Value) (hw : ∀ d ∈ tables_1, d.before a0 Z = true) (ws : List Jvm.Cond) (a : Addr) (tb : Addr) (kt : ClassId) (ln : Int32) (vs : List Value) (h0 : Heap) (n0 : Nat) (O0 : Old Z n0 h0) (Fe : Fld Z h0 a "java/util/ImmutableCollections$ListN" "elements" "[Ljava/lang/Object;" (.ref tb)) (At : Arv Z h0 tb kt (.object "java/lang/Object") ln vs .null) :
    MetFree l (⟨"java/util/ImmutableCollections$ListN", "isEmpty", "()Z"⟩ : MethodName) (head1 (Jvm.Cond.code (⟨"java/util/ImmutableCollections$ListN", "isEmpty", "()Z"⟩ : MethodName) jdk_45_method_2_code 1 (some .boolean) :: ws) ({ frames := 0, cells := 0, slots := 0, locals := 0 } : Room)) (fun aa U => aa = #[(.ref a)] ∧ Z.Warmed39 U.vm ∧ U.heap = h0) (fun _ _ _ _ _ => True) (fun _ U o U' => ∃ v L, o = .returned v ∧ Q_rmeN Z a tb kt ln vs h0 n0 v U'.heap L ∧ FrameEnd U o U' L ({ frames := 0, cells := 0, slots := 0, locals := 0 } : Room).cells ({ frames := 0, cells := 0, slots := 0, locals := 0 } : Room).slots) := by
  refine MetFree.of_bodySF (plainFor_of_name pn10) hisR ?_
  intro p e s m args below meth c s₁ Bd hml0 hP hK
  obtain ⟨rfl, hZ, hh⟩ := hP
  have hx := Bd.exec
  have hby := Bd.bytes
  have hml : c.maxLocals = 1 := hml0
  have hown : s.vm.findClass "java/util/ImmutableCollections$ListN" = some m.cls := findClass_of_methodNamed Bd.named
  have hnm := (name_of_methodNamed Bd.named Bd.method).1
  have X0 : Stand p l e ({ frames := 0, cells := 0, slots := 0, locals := 0 } : Room) s m #[(.ref a)] below meth c s₁ [] 0 0 := Stand.of_body Bd
  have e0 : s₁.heap = h0 := by rw [← hh, Bd.state]; rfl
  have N0 := Fr.nil n0
  have K0 : Keep h0 h0 [] := Keep.refl _ _
  have pre0 : ∀ tgt, Steps p.tables e below (s₁.setTop (mkF m 0 #[.val (.ref a)] [])) tgt → Steps p.tables e below (s₁.setTop (entryFrame m #[(.ref a)] 1)) tgt := fun tgt kgo => castTop (ef_rmeN m a) kgo
  obtain ⟨T1, X1, e1, st1⟩ := getF X0 hx hZ hown (host := "") (Or.inl (ow183 hw)) Via.refl e0 Fe (g := (mkF m 1 #[.val (.ref a)] [(.ref a)])) rfl rfl (hb hby d_jdk_45_method_2_code_1)
  obtain ⟨cl2, Ar2, q2, S2, M2, H2, G2⟩ := id At
  have pre3 : ∀ tgt, Steps p.tables e below (T1.setTop (mkF m 5 #[.val (.ref a)] [(.int ln)])) tgt → Steps p.tables e below (s₁.setTop (entryFrame m #[(.ref a)] 1)) tgt := by
    intro tgt kgo
    refine pre0 _ ?_
    refine XS.aloadN X0.here hx rfl (hb hby d_jdk_45_method_2_code_0) rfl rfl ?_
    show Steps p.tables e below (s₁.setTop (mkF m 1 #[.val (.ref a)] [(.ref a)])) _
    refine st1 _ ?_
    show Steps p.tables e below (T1.setTop (mkF m 4 #[.val (.ref a)] [(.ref tb)])) _
    refine X1.arraylength hx (by rw [e1]; exact Ar2.1) (State.isArrayOf_alike hZ.alike Ar2.2.1) (g := (mkF m 4 #[.val (.ref a)] [(.ref tb)])) rfl rfl (hb hby d_jdk_45_method_2_code_4) _ ?_
    rw [len_of S2 M2]
    show Steps p.tables e below (T1.setTop (mkF m 5 #[.val (.ref a)] [(.int ln)])) _
    exact kgo
  by_cases hc5_4 : ln = (0 : Int32)
  · obtain ⟨fs, hretL, hrun, hended, hW, hsame⟩ := X1.leave (v := some (.int (1 : Int32))) (fun h => by rw [Bd.returns] at h; cases h)
    refine ⟨_, _, pre3 _ ?_, hrun, hended, _, _, rfl, ?_, ⟨_, rfl⟩, hW, hsame.mono (by decide) (by decide)⟩
    · refine XS.ifNo X1.here hx rfl (hb hby d_jdk_45_method_2_code_5) rfl ((if0 _ _).trans (teq hc5_4).2) ?_
      show Steps p.tables e below (T1.setTop (mkF m 8 #[.val (.ref a)] [])) _
      refine XS.iconst X1.here hx rfl (hb hby d_jdk_45_method_2_code_8) ?_
      show Steps p.tables e below (T1.setTop (mkF m 9 #[.val (.ref a)] [(.int (1 : Int32))])) _
      refine XS.goto X1.here hx rfl (pc0 := 9) (pc' := 13) rfl (hb hby d_jdk_45_method_2_code_9) (by decide) (by decide) ?_
      show Steps p.tables e below (T1.setTop (mkF m 13 #[.val (.ref a)] [(.int (1 : Int32))])) _
      exact retOut X1 hx Bd.returns rfl (Or.inl ⟨rfl, Or.inr (Or.inl rfl), _, rfl⟩) (hb hby d_jdk_45_method_2_code_13) hretL
    · show Q_rmeN Z a tb kt ln vs h0 n0 _ T1.heap _
      rw [e1]
      exact ⟨by simp only [iz, if_pos hc5_4], N0, rfl⟩
  · obtain ⟨fs, hretL, hrun, hended, hW, hsame⟩ := X1.leave (v := some (.int (0 : Int32))) (fun h => by rw [Bd.returns] at h; cases h)
    refine ⟨_, _, pre3 _ ?_, hrun, hended, _, _, rfl, ?_, ⟨_, rfl⟩, hW, hsame.mono (by decide) (by decide)⟩
    · refine XS.ifYes X1.here hx rfl (pc0 := 5) (pc' := 12) rfl (hb hby d_jdk_45_method_2_code_5) rfl ((if0 _ _).trans (feq hc5_4).2) (by decide) (by decide) ?_
      show Steps p.tables e below (T1.setTop (mkF m 12 #[.val (.ref a)] [])) _
      refine XS.iconst X1.here hx rfl (hb hby d_jdk_45_method_2_code_12) ?_
      show Steps p.tables e below (T1.setTop (mkF m 13 #[.val (.ref a)] [(.int (0 : Int32))])) _
      exact retOut X1 hx Bd.returns rfl (Or.inl ⟨rfl, Or.inr (Or.inl rfl), _, rfl⟩) (hb hby d_jdk_45_method_2_code_13) hretL
    · show Q_rmeN Z a tb kt ln vs h0 n0 _ T1.heap _
      rw [e1]
      exact ⟨by simp only [iz, if_neg hc5_4], N0, rfl⟩
theorem d_jdk_44_method_1_code_0 : decode jdk_44_method_1_code 0 = .ok (.aload_n 0, 1) := by decide +kernel
theorem d_jdk_44_method_1_code_1 : decode jdk_44_method_1_code 1 = .ok (.invokespecial 1, 3) := by decide +kernel
theorem d_jdk_44_method_1_code_4 : decode jdk_44_method_1_code 4 = .ok (.aload_n 0, 1) := by decide +kernel
theorem d_jdk_44_method_1_code_5 : decode jdk_44_method_1_code 5 = .ok (.aload_n 1, 1) := by decide +kernel
theorem d_jdk_44_method_1_code_6 : decode jdk_44_method_1_code 6 = .ok (.invokestatic 7, 3) := by decide +kernel
theorem d_jdk_44_method_1_code_9 : decode jdk_44_method_1_code 9 = .ok (.putfield 13, 3) := by decide +kernel
theorem d_jdk_44_method_1_code_12 : decode jdk_44_method_1_code 12 = .ok (.aload_n 0, 1) := by decide +kernel
theorem d_jdk_44_method_1_code_13 : decode jdk_44_method_1_code 13 = .ok (.getstatic 19, 3) := by decide +kernel
theorem d_jdk_44_method_1_code_16 : decode jdk_44_method_1_code 16 = .ok (.putfield 24, 3) := by decide +kernel
theorem d_jdk_44_method_1_code_19 : decode jdk_44_method_1_code 19 = .ok (.return_, 1) := by decide +kernel
def Q_rml1 (Z : State) (a : Addr) (sp : Addr) (em : Addr) (h0 : Heap) (n0 : Nat) (v : Option Value) (h : Heap) (L : List Loc) : Prop := v = none ∧ Fr n0 L ∧ Keep h0 h [a]
theorem ef_rml1 (m : MethodId) (a : Addr) (sp : Addr) : entryFrame m #[(.ref a), (.ref sp)] 2 = mkF m 0 #[.val (.ref a), .val (.ref sp)] [] := by first | (simp [entryFrame, mkF, argsToLocals, Value.category]; done) | rfl
set_option maxRecDepth 65536 in
set_option maxHeartbeats 40000000 in
theorem rml1 (l : Launch) (Z : State) (a0 : Array Value) (hw : ∀ d ∈ tables_1, d.before a0 Z = true) (ws : List Jvm.Cond) (a : Addr) (sp : Addr) (em : Addr) (h0 : Heap) (n0 : Nat) (O0 : Old Z n0 h0) (Ea : Exa Z h0 a "java/util/ImmutableCollections$List12") (F_e0 : Fld Z h0 a "java/util/ImmutableCollections$List12" "e0" "Ljava/lang/Object;" .null) (F_e1 : Fld Z h0 a "java/util/ImmutableCollections$List12" "e1" "Ljava/lang/Object;" .null) (ga : n0 ≤ a) (Sem : Sta Z Z.heap "java/util/ImmutableCollections" "EMPTY" "Ljava/lang/Object;" (.ref em)) :
    MetFree l (⟨"java/util/ImmutableCollections$List12", "<init>", "(Ljava/lang/Object;)V"⟩ : MethodName) (head1 (Jvm.Cond.code (⟨"java/util/ImmutableCollections$List12", "<init>", "(Ljava/lang/Object;)V"⟩ : MethodName) jdk_44_method_1_code 2 none :: ws) ({ frames := 4, cells := 0, slots := 0, locals := 48 } : Room)) (fun aa U => aa = #[(.ref a), (.ref sp)] ∧ Z.Warmed39 U.vm ∧ U.heap = h0) (fun _ _ _ _ _ => True) (fun _ U o U' => ∃ v L, o = .returned v ∧ Q_rml1 Z a sp em h0 n0 v U'.heap L ∧ FrameEnd U o U' L ({ frames := 4, cells := 0, slots := 0, locals := 48 } : Room).cells ({ frames := 4, cells := 0, slots := 0, locals := 48 } : Room).slots) := by
  refine MetFree.of_bodySF (plainFor_of_name pn9) hisR ?_
  intro p e s m args below meth c s₁ Bd hml0 hP hK
  obtain ⟨rfl, hZ, hh⟩ := hP
  have hx := Bd.exec
  have hby := Bd.bytes
  have hml : c.maxLocals = 2 := hml0
  have hown : s.vm.findClass "java/util/ImmutableCollections$List12" = some m.cls := findClass_of_methodNamed Bd.named
  have hnm := (name_of_methodNamed Bd.named Bd.method).1
  have X0 : Stand p l e ({ frames := 4, cells := 0, slots := 0, locals := 48 } : Room) s m #[(.ref a), (.ref sp)] below meth c s₁ [] 0 0 := Stand.of_body Bd
  have e0 : s₁.heap = h0 := by rw [← hh, Bd.state]; rfl
  have N0 := Fr.nil n0
  have K0 : Keep h0 h0 [a] := Keep.refl _ _
  have pre0 : ∀ tgt, Steps p.tables e below (s₁.setTop (mkF m 0 #[.val (.ref a), .val (.ref sp)] [])) tgt → Steps p.tables e below (s₁.setTop (entryFrame m #[(.ref a), (.ref sp)] 2)) tgt := fun tgt kgo => castTop (ef_rml1 m a sp) kgo
  obtain ⟨_, _, ⟨T1, L1, k1, n1⟩, -, X1, ⟨Lc1, hQ1, l1, y1, z1⟩, st1⟩ := X0.specialBack hx (y := (⟨"java/util/ImmutableCollections$AbstractImmutableList", "<init>", "()V"⟩ : MethodName)) rfl hown (mvT hZ (ow213 hw)) (mvT hZ (ow170 hw)) (mvT hZ (ow174 hw)) (by decide) (backOf (W := 0) (rmail l Z a0 hw [] a  h0 n0 O0 ) hZ (ow174 hw) (ow173 hw) (by decide) (by decide)) (g := (mkF m 1 #[.val (.ref a), .val (.ref sp)] [(.ref a)])) rfl (by rw [hml]; rfl) (Steps.refl _) (a := a) (argsL := []) (rest := []) (lenOf pd0 rfl) rfl (by show 2 * 0 + _ ≤ _; exact Nat.le_of_eq rfl) (hb hby d_jdk_44_method_1_code_1) (fun _ _ => ⟨rfl, e0, (by decide : 0 + 0 ≤ _), (by decide : 0 + 0 ≤ _)⟩)
  dsimp only [Pt.U, Pt.locs, Pt.cells, Pt.slots] at X1 l1 y1 z1 st1 hQ1
  subst l1 y1 z1
  obtain ⟨rfl, Nq1, eq1⟩ := hQ1
  have N2 := Fr.app N0 Nq1
  obtain ⟨_, _, ⟨T3, L3, k3, n3⟩, -, X3, ⟨Lc3, hQ3, l3, y3, z3⟩, st3⟩ := Jvm.LawKit.callS X1 hx (y := (⟨"java/util/Objects", "requireNonNull", "(Ljava/lang/Object;)Ljava/lang/Object;"⟩ : MethodName)) hown (mvT hZ (ow217 hw)) (mvT hZ (ow160 hw)) (mvT hZ (ow161 hw)) (mvT hZ (ow162 hw)) (by decide) (backOf (W := 1) (rmnn l Z a0 hw [] sp  h0 n0 O0 ) hZ (ow162 hw) (ow161 hw) (by decide) (by decide)) (g := (mkF m 6 #[.val (.ref a), .val (.ref sp)] [(.ref sp), (.ref a)])) rfl (by rw [hml]; rfl) (argsL := [(.ref sp)]) (rest := [(.ref a)]) (lenOf pd5 rfl) rfl (by show 2 * 0 + _ ≤ _; exact Nat.le_of_eq rfl) (hb hby d_jdk_44_method_1_code_6) (fun _ _ => ⟨rfl, eq1, (by decide : 0 + 0 ≤ _), (by decide : 0 + 0 ≤ _)⟩)
  dsimp only [Pt.U, Pt.locs, Pt.cells, Pt.slots] at X3 l3 y3 z3 st3 hQ3
  subst l3 y3 z3
  obtain ⟨rfl, Nq3, eq3⟩ := hQ3
  have N4 := Fr.app N2 Nq3
  obtain ⟨T5, h5, X5, e5, W5, st5⟩ := putF X3 hx hZ hown (host := "") (Or.inl (ow218 hw)) Via.refl eq3 F_e0 Ea (Or.inr ⟨(ow219 hw), rfl, hnm⟩) (ow207 hw) (ty := (.object "java/lang/Object")) (by decide) rfl rfl (g := (mkF m 9 #[.val (.ref a), .val (.ref sp)] [(.ref sp), (.ref a)])) rfl rfl (hb hby d_jdk_44_method_1_code_9)
  have Fw5 := F_e0.same W5
  have N6 := Fr.snoc X5 N4 ga
  have Ol6 := O0.wr W5 ga
  have K6 := K0.wr W5 (Or.inl (List.mem_of_getElem? (i := 0) rfl))
  obtain ⟨T7, X7, e7, st7⟩ := getS2 X5 hx hZ hown (Or.inr (ow225 hw)) Via.refl e5 (Sem.ext Ol6.2) (g := (mkF m 13 #[.val (.ref a), .val (.ref sp)] [(.ref a)])) rfl (hb hby d_jdk_44_method_1_code_13)
  have f8 := (Ea.wr W5)
  have f9 := (F_e1.other W5 (Or.inr (slot_ne (Or.inr (ow221 hw)) (Or.inr (ow219 hw)) (by decide) (t := (.object "java/lang/Object")) (t' := (.object "java/lang/Object")) (by decide) (by decide))))
  obtain ⟨T10, h10, X10, e10, W10, st10⟩ := putF X7 hx hZ hown (host := "") (Or.inl (ow220 hw)) Via.refl e7 f9 f8 (Or.inr ⟨(ow221 hw), rfl, hnm⟩) (ow207 hw) (ty := (.object "java/lang/Object")) (by decide) rfl rfl (g := (mkF m 16 #[.val (.ref a), .val (.ref sp)] [(.ref em), (.ref a)])) rfl rfl (hb hby d_jdk_44_method_1_code_16)
  have Fw10 := f9.same W10
  have N11 := Fr.snoc X10 N6 ga
  have Ol11 := Ol6.wr W10 ga
  have K11 := K6.wr W10 (Or.inl (List.mem_of_getElem? (i := 0) rfl))
  obtain ⟨fs, hretL, hrun, hended, hW, hsame⟩ := X10.leave (v := none) (fun _ => rfl)
  refine ⟨_, _, pre0 _ ?_, hrun, hended, _, _, rfl, ?_, ⟨_, rfl⟩, hW, hsame.mono (by decide) (by decide)⟩
  · refine XS.aloadN X0.here hx rfl (hb hby d_jdk_44_method_1_code_0) rfl rfl ?_
    show Steps p.tables e below (s₁.setTop (mkF m 1 #[.val (.ref a), .val (.ref sp)] [(.ref a)])) _
    refine st1.trans ?_
    show Steps p.tables e below (T1.setTop (mkF m 4 #[.val (.ref a), .val (.ref sp)] [])) _
    refine XS.aloadN X1.here hx rfl (hb hby d_jdk_44_method_1_code_4) rfl rfl ?_
    show Steps p.tables e below (T1.setTop (mkF m 5 #[.val (.ref a), .val (.ref sp)] [(.ref a)])) _
    refine XS.aloadN X1.here hx rfl (hb hby d_jdk_44_method_1_code_5) rfl rfl ?_
    show Steps p.tables e below (T1.setTop (mkF m 6 #[.val (.ref a), .val (.ref sp)] [(.ref sp), (.ref a)])) _
    refine st3 _ ?_
    show Steps p.tables e below (T3.setTop (mkF m 9 #[.val (.ref a), .val (.ref sp)] [(.ref sp), (.ref a)])) _
    refine st5 _ ?_
    show Steps p.tables e below (T5.setTop (mkF m 12 #[.val (.ref a), .val (.ref sp)] [])) _
    refine XS.aloadN X5.here hx rfl (hb hby d_jdk_44_method_1_code_12) rfl rfl ?_
    show Steps p.tables e below (T5.setTop (mkF m 13 #[.val (.ref a), .val (.ref sp)] [(.ref a)])) _
    refine st7 _ ?_
    show Steps p.tables e below (T7.setTop (mkF m 16 #[.val (.ref a), .val (.ref sp)] [(.ref em), (.ref a)])) _
    refine st10 _ ?_
    show Steps p.tables e below (T10.setTop (mkF m 19 #[.val (.ref a), .val (.ref sp)] [])) _
    exact X10.returnOut hx Bd.returns (hb hby d_jdk_44_method_1_code_19) hretL
  · show Q_rml1 Z a sp em h0 n0 _ T10.heap _
    rw [e10]
    exact ⟨rfl, N11, K11⟩
theorem d_jdk_44_method_2_code_0 : decode jdk_44_method_2_code 0 = .ok (.aload_n 0, 1) := by decide +kernel
theorem d_jdk_44_method_2_code_1 : decode jdk_44_method_2_code 1 = .ok (.invokespecial 1, 3) := by decide +kernel
theorem d_jdk_44_method_2_code_4 : decode jdk_44_method_2_code 4 = .ok (.aload_n 0, 1) := by decide +kernel
theorem d_jdk_44_method_2_code_5 : decode jdk_44_method_2_code 5 = .ok (.aload_n 1, 1) := by decide +kernel
theorem d_jdk_44_method_2_code_6 : decode jdk_44_method_2_code 6 = .ok (.invokestatic 7, 3) := by decide +kernel
theorem d_jdk_44_method_2_code_9 : decode jdk_44_method_2_code 9 = .ok (.putfield 13, 3) := by decide +kernel
theorem d_jdk_44_method_2_code_12 : decode jdk_44_method_2_code 12 = .ok (.aload_n 0, 1) := by decide +kernel
theorem d_jdk_44_method_2_code_13 : decode jdk_44_method_2_code 13 = .ok (.aload_n 2, 1) := by decide +kernel
theorem d_jdk_44_method_2_code_14 : decode jdk_44_method_2_code 14 = .ok (.invokestatic 7, 3) := by decide +kernel
theorem d_jdk_44_method_2_code_17 : decode jdk_44_method_2_code 17 = .ok (.putfield 24, 3) := by decide +kernel
theorem d_jdk_44_method_2_code_20 : decode jdk_44_method_2_code 20 = .ok (.return_, 1) := by decide +kernel
def Q_rml2 (Z : State) (a : Addr) (sp : Addr) (h0 : Heap) (n0 : Nat) (v : Option Value) (h : Heap) (L : List Loc) : Prop := v = none ∧ Fr n0 L ∧ Keep h0 h [a]
theorem ef_rml2 (m : MethodId) (a : Addr) (sp : Addr) : entryFrame m #[(.ref a), (.ref sp), (.ref sp)] 3 = mkF m 0 #[.val (.ref a), .val (.ref sp), .val (.ref sp)] [] := by first | (simp [entryFrame, mkF, argsToLocals, Value.category]; done) | rfl
set_option maxRecDepth 65536 in
set_option maxHeartbeats 40000000 in
theorem rml2 (l : Launch) (Z : State) (a0 : Array Value) (hw : ∀ d ∈ tables_1, d.before a0 Z = true) (ws : List Jvm.Cond) (a : Addr) (sp : Addr) (h0 : Heap) (n0 : Nat) (O0 : Old Z n0 h0) (Ea : Exa Z h0 a "java/util/ImmutableCollections$List12") (F_e0 : Fld Z h0 a "java/util/ImmutableCollections$List12" "e0" "Ljava/lang/Object;" .null) (F_e1 : Fld Z h0 a "java/util/ImmutableCollections$List12" "e1" "Ljava/lang/Object;" .null) (ga : n0 ≤ a) :
    MetFree l (⟨"java/util/ImmutableCollections$List12", "<init>", "(Ljava/lang/Object;Ljava/lang/Object;)V"⟩ : MethodName) (head1 (Jvm.Cond.code (⟨"java/util/ImmutableCollections$List12", "<init>", "(Ljava/lang/Object;Ljava/lang/Object;)V"⟩ : MethodName) jdk_44_method_2_code 3 none :: ws) ({ frames := 4, cells := 0, slots := 0, locals := 48 } : Room)) (fun aa U => aa = #[(.ref a), (.ref sp), (.ref sp)] ∧ Z.Warmed39 U.vm ∧ U.heap = h0) (fun _ _ _ _ _ => True) (fun _ U o U' => ∃ v L, o = .returned v ∧ Q_rml2 Z a sp h0 n0 v U'.heap L ∧ FrameEnd U o U' L ({ frames := 4, cells := 0, slots := 0, locals := 48 } : Room).cells ({ frames := 4, cells := 0, slots := 0, locals := 48 } : Room).slots) := by
  refine MetFree.of_bodySF (plainFor_of_name pn9) hisR ?_
  intro p e s m args below meth c s₁ Bd hml0 hP hK
  obtain ⟨rfl, hZ, hh⟩ := hP
  have hx := Bd.exec
  have hby := Bd.bytes
  have hml : c.maxLocals = 3 := hml0
  have hown : s.vm.findClass "java/util/ImmutableCollections$List12" = some m.cls := findClass_of_methodNamed Bd.named
  have hnm := (name_of_methodNamed Bd.named Bd.method).1
  have X0 : Stand p l e ({ frames := 4, cells := 0, slots := 0, locals := 48 } : Room) s m #[(.ref a), (.ref sp), (.ref sp)] below meth c s₁ [] 0 0 := Stand.of_body Bd
  have e0 : s₁.heap = h0 := by rw [← hh, Bd.state]; rfl
  have N0 := Fr.nil n0
  have K0 : Keep h0 h0 [a] := Keep.refl _ _
  have pre0 : ∀ tgt, Steps p.tables e below (s₁.setTop (mkF m 0 #[.val (.ref a), .val (.ref sp), .val (.ref sp)] [])) tgt → Steps p.tables e below (s₁.setTop (entryFrame m #[(.ref a), (.ref sp), (.ref sp)] 3)) tgt := fun tgt kgo => castTop (ef_rml2 m a sp) kgo
  obtain ⟨_, _, ⟨T1, L1, k1, n1⟩, -, X1, ⟨Lc1, hQ1, l1, y1, z1⟩, st1⟩ := X0.specialBack hx (y := (⟨"java/util/ImmutableCollections$AbstractImmutableList", "<init>", "()V"⟩ : MethodName)) rfl hown (mvT hZ (ow213 hw)) (mvT hZ (ow170 hw)) (mvT hZ (ow174 hw)) (by decide) (backOf (W := 0) (rmail l Z a0 hw [] a  h0 n0 O0 ) hZ (ow174 hw) (ow173 hw) (by decide) (by decide)) (g := (mkF m 1 #[.val (.ref a), .val (.ref sp), .val (.ref sp)] [(.ref a)])) rfl (by rw [hml]; rfl) (Steps.refl _) (a := a) (argsL := []) (rest := []) (lenOf pd0 rfl) rfl (by show 2 * 0 + _ ≤ _; exact Nat.le_of_eq rfl) (hb hby d_jdk_44_method_2_code_1) (fun _ _ => ⟨rfl, e0, (by decide : 0 + 0 ≤ _), (by decide : 0 + 0 ≤ _)⟩)
  dsimp only [Pt.U, Pt.locs, Pt.cells, Pt.slots] at X1 l1 y1 z1 st1 hQ1
  subst l1 y1 z1
  obtain ⟨rfl, Nq1, eq1⟩ := hQ1
  have N2 := Fr.app N0 Nq1
  obtain ⟨_, _, ⟨T3, L3, k3, n3⟩, -, X3, ⟨Lc3, hQ3, l3, y3, z3⟩, st3⟩ := Jvm.LawKit.callS X1 hx (y := (⟨"java/util/Objects", "requireNonNull", "(Ljava/lang/Object;)Ljava/lang/Object;"⟩ : MethodName)) hown (mvT hZ (ow217 hw)) (mvT hZ (ow160 hw)) (mvT hZ (ow161 hw)) (mvT hZ (ow162 hw)) (by decide) (backOf (W := 1) (rmnn l Z a0 hw [] sp  h0 n0 O0 ) hZ (ow162 hw) (ow161 hw) (by decide) (by decide)) (g := (mkF m 6 #[.val (.ref a), .val (.ref sp), .val (.ref sp)] [(.ref sp), (.ref a)])) rfl (by rw [hml]; rfl) (argsL := [(.ref sp)]) (rest := [(.ref a)]) (lenOf pd5 rfl) rfl (by show 2 * 0 + _ ≤ _; exact Nat.le_of_eq rfl) (hb hby d_jdk_44_method_2_code_6) (fun _ _ => ⟨rfl, eq1, (by decide : 0 + 0 ≤ _), (by decide : 0 + 0 ≤ _)⟩)
  dsimp only [Pt.U, Pt.locs, Pt.cells, Pt.slots] at X3 l3 y3 z3 st3 hQ3
  subst l3 y3 z3
  obtain ⟨rfl, Nq3, eq3⟩ := hQ3
  have N4 := Fr.app N2 Nq3
  obtain ⟨T5, h5, X5, e5, W5, st5⟩ := putF X3 hx hZ hown (host := "") (Or.inl (ow218 hw)) Via.refl eq3 F_e0 Ea (Or.inr ⟨(ow219 hw), rfl, hnm⟩) (ow207 hw) (ty := (.object "java/lang/Object")) (by decide) rfl rfl (g := (mkF m 9 #[.val (.ref a), .val (.ref sp), .val (.ref sp)] [(.ref sp), (.ref a)])) rfl rfl (hb hby d_jdk_44_method_2_code_9)
  have Fw5 := F_e0.same W5
  have N6 := Fr.snoc X5 N4 ga
  have Ol6 := O0.wr W5 ga
  have K6 := K0.wr W5 (Or.inl (List.mem_of_getElem? (i := 0) rfl))
  obtain ⟨_, _, ⟨T7, L7, k7, n7⟩, -, X7, ⟨Lc7, hQ7, l7, y7, z7⟩, st7⟩ := Jvm.LawKit.callS X5 hx (y := (⟨"java/util/Objects", "requireNonNull", "(Ljava/lang/Object;)Ljava/lang/Object;"⟩ : MethodName)) hown (mvT hZ (ow217 hw)) (mvT hZ (ow160 hw)) (mvT hZ (ow161 hw)) (mvT hZ (ow162 hw)) (by decide) (backOf (W := 1) (rmnn l Z a0 hw [] sp  h5 n0 Ol6 ) hZ (ow162 hw) (ow161 hw) (by decide) (by decide)) (g := (mkF m 14 #[.val (.ref a), .val (.ref sp), .val (.ref sp)] [(.ref sp), (.ref a)])) rfl (by rw [hml]; rfl) (argsL := [(.ref sp)]) (rest := [(.ref a)]) (lenOf pd5 rfl) rfl (by show 2 * 0 + _ ≤ _; exact Nat.le_of_eq rfl) (hb hby d_jdk_44_method_2_code_14) (fun _ _ => ⟨rfl, e5, (by decide : 0 + 0 ≤ _), (by decide : 0 + 0 ≤ _)⟩)
  dsimp only [Pt.U, Pt.locs, Pt.cells, Pt.slots] at X7 l7 y7 z7 st7 hQ7
  subst l7 y7 z7
  obtain ⟨rfl, Nq7, eq7⟩ := hQ7
  have N8 := Fr.app N6 Nq7
  have f9 := (Ea.wr W5)
  have f10 := (F_e1.other W5 (Or.inr (slot_ne (Or.inr (ow221 hw)) (Or.inr (ow219 hw)) (by decide) (t := (.object "java/lang/Object")) (t' := (.object "java/lang/Object")) (by decide) (by decide))))
  obtain ⟨T11, h11, X11, e11, W11, st11⟩ := putF X7 hx hZ hown (host := "") (Or.inl (ow220 hw)) Via.refl eq7 f10 f9 (Or.inr ⟨(ow221 hw), rfl, hnm⟩) (ow207 hw) (ty := (.object "java/lang/Object")) (by decide) rfl rfl (g := (mkF m 17 #[.val (.ref a), .val (.ref sp), .val (.ref sp)] [(.ref sp), (.ref a)])) rfl rfl (hb hby d_jdk_44_method_2_code_17)
  have Fw11 := f10.same W11
  have N12 := Fr.snoc X11 N8 ga
  have Ol12 := Ol6.wr W11 ga
  have K12 := K6.wr W11 (Or.inl (List.mem_of_getElem? (i := 0) rfl))
  obtain ⟨fs, hretL, hrun, hended, hW, hsame⟩ := X11.leave (v := none) (fun _ => rfl)
  refine ⟨_, _, pre0 _ ?_, hrun, hended, _, _, rfl, ?_, ⟨_, rfl⟩, hW, hsame.mono (by decide) (by decide)⟩
  · refine XS.aloadN X0.here hx rfl (hb hby d_jdk_44_method_2_code_0) rfl rfl ?_
    show Steps p.tables e below (s₁.setTop (mkF m 1 #[.val (.ref a), .val (.ref sp), .val (.ref sp)] [(.ref a)])) _
    refine st1.trans ?_
    show Steps p.tables e below (T1.setTop (mkF m 4 #[.val (.ref a), .val (.ref sp), .val (.ref sp)] [])) _
    refine XS.aloadN X1.here hx rfl (hb hby d_jdk_44_method_2_code_4) rfl rfl ?_
    show Steps p.tables e below (T1.setTop (mkF m 5 #[.val (.ref a), .val (.ref sp), .val (.ref sp)] [(.ref a)])) _
    refine XS.aloadN X1.here hx rfl (hb hby d_jdk_44_method_2_code_5) rfl rfl ?_
    show Steps p.tables e below (T1.setTop (mkF m 6 #[.val (.ref a), .val (.ref sp), .val (.ref sp)] [(.ref sp), (.ref a)])) _
    refine st3 _ ?_
    show Steps p.tables e below (T3.setTop (mkF m 9 #[.val (.ref a), .val (.ref sp), .val (.ref sp)] [(.ref sp), (.ref a)])) _
    refine st5 _ ?_
    show Steps p.tables e below (T5.setTop (mkF m 12 #[.val (.ref a), .val (.ref sp), .val (.ref sp)] [])) _
    refine XS.aloadN X5.here hx rfl (hb hby d_jdk_44_method_2_code_12) rfl rfl ?_
    show Steps p.tables e below (T5.setTop (mkF m 13 #[.val (.ref a), .val (.ref sp), .val (.ref sp)] [(.ref a)])) _
    refine XS.aloadN X5.here hx rfl (hb hby d_jdk_44_method_2_code_13) rfl rfl ?_
    show Steps p.tables e below (T5.setTop (mkF m 14 #[.val (.ref a), .val (.ref sp), .val (.ref sp)] [(.ref sp), (.ref a)])) _
    refine st7 _ ?_
    show Steps p.tables e below (T7.setTop (mkF m 17 #[.val (.ref a), .val (.ref sp), .val (.ref sp)] [(.ref sp), (.ref a)])) _
    refine st11 _ ?_
    show Steps p.tables e below (T11.setTop (mkF m 20 #[.val (.ref a), .val (.ref sp), .val (.ref sp)] [])) _
    exact X11.returnOut hx Bd.returns (hb hby d_jdk_44_method_2_code_20) hretL
  · show Q_rml2 Z a sp h0 n0 _ T11.heap _
    rw [e11]
    exact ⟨rfl, N12, K12⟩
theorem d_jdk_45_method_1_code_0 : decode jdk_45_method_1_code 0 = .ok (.aload_n 0, 1) := by decide +kernel
theorem d_jdk_45_method_1_code_1 : decode jdk_45_method_1_code 1 = .ok (.invokespecial 1, 3) := by decide +kernel
theorem d_jdk_45_method_1_code_4 : decode jdk_45_method_1_code 4 = .ok (.aload_n 0, 1) := by decide +kernel
theorem d_jdk_45_method_1_code_5 : decode jdk_45_method_1_code 5 = .ok (.aload_n 1, 1) := by decide +kernel
theorem d_jdk_45_method_1_code_6 : decode jdk_45_method_1_code 6 = .ok (.putfield 7, 3) := by decide +kernel
theorem d_jdk_45_method_1_code_9 : decode jdk_45_method_1_code 9 = .ok (.aload_n 0, 1) := by decide +kernel
theorem d_jdk_45_method_1_code_10 : decode jdk_45_method_1_code 10 = .ok (.iload_n 2, 1) := by decide +kernel
theorem d_jdk_45_method_1_code_11 : decode jdk_45_method_1_code 11 = .ok (.putfield 13, 3) := by decide +kernel
theorem d_jdk_45_method_1_code_14 : decode jdk_45_method_1_code 14 = .ok (.return_, 1) := by decide +kernel
def Q_rmlni (Z : State) (a : Addr) (b : Addr) (h0 : Heap) (n0 : Nat) (v : Option Value) (h : Heap) (L : List Loc) : Prop := v = none ∧ Fr n0 L ∧ Keep h0 h [a] ∧ Fld Z h a "java/util/ImmutableCollections$ListN" "elements" "[Ljava/lang/Object;" (.ref b)
theorem ef_rmlni (m : MethodId) (a : Addr) (b : Addr) : entryFrame m #[(.ref a), (.ref b), (.int (0 : Int32))] 3 = mkF m 0 #[.val (.ref a), .val (.ref b), .val (.int (0 : Int32))] [] := by first | (simp [entryFrame, mkF, argsToLocals, Value.category]; done) | rfl
set_option maxRecDepth 65536 in
set_option maxHeartbeats 40000000 in
theorem rmlni (l : Launch) (Z : State) (a0 : Array Value) (hw : ∀ d ∈ tables_1, d.before a0 Z = true) (ws : List Jvm.Cond) (a : Addr) (b : Addr) (h0 : Heap) (n0 : Nat) (O0 : Old Z n0 h0) (Ea : Exa Z h0 a "java/util/ImmutableCollections$ListN") (Fe : Fld Z h0 a "java/util/ImmutableCollections$ListN" "elements" "[Ljava/lang/Object;" .null) (Fn : Fld Z h0 a "java/util/ImmutableCollections$ListN" "allowNulls" "Z" (.int (0 : Int32))) (ga : n0 ≤ a) :
    MetFree l (⟨"java/util/ImmutableCollections$ListN", "<init>", "([Ljava/lang/Object;Z)V"⟩ : MethodName) (head1 (Jvm.Cond.code (⟨"java/util/ImmutableCollections$ListN", "<init>", "([Ljava/lang/Object;Z)V"⟩ : MethodName) jdk_45_method_1_code 3 none :: ws) ({ frames := 4, cells := 0, slots := 0, locals := 48 } : Room)) (fun aa U => aa = #[(.ref a), (.ref b), (.int (0 : Int32))] ∧ Z.Warmed39 U.vm ∧ U.heap = h0) (fun _ _ _ _ _ => True) (fun _ U o U' => ∃ v L, o = .returned v ∧ Q_rmlni Z a b h0 n0 v U'.heap L ∧ FrameEnd U o U' L ({ frames := 4, cells := 0, slots := 0, locals := 48 } : Room).cells ({ frames := 4, cells := 0, slots := 0, locals := 48 } : Room).slots) := by
  refine MetFree.of_bodySF (plainFor_of_name pn10) hisR ?_
  intro p e s m args below meth c s₁ Bd hml0 hP hK
  obtain ⟨rfl, hZ, hh⟩ := hP
  have hx := Bd.exec
  have hby := Bd.bytes
  have hml : c.maxLocals = 3 := hml0
  have hown : s.vm.findClass "java/util/ImmutableCollections$ListN" = some m.cls := findClass_of_methodNamed Bd.named
  have hnm := (name_of_methodNamed Bd.named Bd.method).1
  have X0 : Stand p l e ({ frames := 4, cells := 0, slots := 0, locals := 48 } : Room) s m #[(.ref a), (.ref b), (.int (0 : Int32))] below meth c s₁ [] 0 0 := Stand.of_body Bd
  have e0 : s₁.heap = h0 := by rw [← hh, Bd.state]; rfl
  have N0 := Fr.nil n0
  have K0 : Keep h0 h0 [a] := Keep.refl _ _
  have pre0 : ∀ tgt, Steps p.tables e below (s₁.setTop (mkF m 0 #[.val (.ref a), .val (.ref b), .val (.int (0 : Int32))] [])) tgt → Steps p.tables e below (s₁.setTop (entryFrame m #[(.ref a), (.ref b), (.int (0 : Int32))] 3)) tgt := fun tgt kgo => castTop (ef_rmlni m a b) kgo
  obtain ⟨_, _, ⟨T1, L1, k1, n1⟩, -, X1, ⟨Lc1, hQ1, l1, y1, z1⟩, st1⟩ := X0.specialBack hx (y := (⟨"java/util/ImmutableCollections$AbstractImmutableList", "<init>", "()V"⟩ : MethodName)) rfl hown (mvT hZ (ow169 hw)) (mvT hZ (ow170 hw)) (mvT hZ (ow174 hw)) (by decide) (backOf (W := 0) (rmail l Z a0 hw [] a  h0 n0 O0 ) hZ (ow174 hw) (ow173 hw) (by decide) (by decide)) (g := (mkF m 1 #[.val (.ref a), .val (.ref b), .val (.int (0 : Int32))] [(.ref a)])) rfl (by rw [hml]; rfl) (Steps.refl _) (a := a) (argsL := []) (rest := []) (lenOf pd0 rfl) rfl (by show 2 * 0 + _ ≤ _; exact Nat.le_of_eq rfl) (hb hby d_jdk_45_method_1_code_1) (fun _ _ => ⟨rfl, e0, (by decide : 0 + 0 ≤ _), (by decide : 0 + 0 ≤ _)⟩)
  dsimp only [Pt.U, Pt.locs, Pt.cells, Pt.slots] at X1 l1 y1 z1 st1 hQ1
  subst l1 y1 z1
  obtain ⟨rfl, Nq1, eq1⟩ := hQ1
  have N2 := Fr.app N0 Nq1
  obtain ⟨T3, h3, X3, e3, W3, st3⟩ := putF X1 hx hZ hown (host := "") (Or.inl (ow183 hw)) Via.refl eq1 Fe Ea (Or.inr ⟨(ow184 hw), rfl, hnm⟩) (ow163 hw) (ty := (.array (.object "java/lang/Object"))) (by decide) rfl rfl (g := (mkF m 6 #[.val (.ref a), .val (.ref b), .val (.int (0 : Int32))] [(.ref b), (.ref a)])) rfl rfl (hb hby d_jdk_45_method_1_code_6)
  have Fw3 := Fe.same W3
  have N4 := Fr.snoc X3 N2 ga
  have Ol4 := O0.wr W3 ga
  have K4 := K0.wr W3 (Or.inl (List.mem_of_getElem? (i := 0) rfl))
  have f5 := (Ea.wr W3)
  have f6 := (Fn.other W3 (Or.inr (slot_ne (Or.inr (ow186 hw)) (Or.inr (ow184 hw)) (by decide) (t := .boolean) (t' := (.array (.object "java/lang/Object"))) (by decide) (by decide))))
  obtain ⟨T7, h7, X7, e7, W7, st7⟩ := putFN X3 hx hZ hown (ow185 hw) Via.refl e3 f6 f5 (Or.inr ⟨(ow186 hw), rfl, hnm⟩) (ow163 hw) (ty := .boolean) (v' := (.int (nar .boolean (0 : Int32)))) (by decide) rfl (fits_nar_bool _) (g := (mkF m 11 #[.val (.ref a), .val (.ref b), .val (.int (0 : Int32))] [(.int (0 : Int32)), (.ref a)])) rfl rfl (hb hby d_jdk_45_method_1_code_11)
  have Fw7 := f6.same W7
  have N8 := Fr.snoc X7 N4 ga
  have Ol8 := Ol4.wr W7 ga
  have K8 := K4.wr W7 (Or.inl (List.mem_of_getElem? (i := 0) rfl))
  have f9 := (Fw3.other W7 (Or.inr (slot_ne (Or.inr (ow184 hw)) (Or.inr (ow186 hw)) (by decide) (t := (.array (.object "java/lang/Object"))) (t' := .boolean) (by decide) (by decide))))
  obtain ⟨fs, hretL, hrun, hended, hW, hsame⟩ := X7.leave (v := none) (fun _ => rfl)
  refine ⟨_, _, pre0 _ ?_, hrun, hended, _, _, rfl, ?_, ⟨_, rfl⟩, hW, hsame.mono (by decide) (by decide)⟩
  · refine XS.aloadN X0.here hx rfl (hb hby d_jdk_45_method_1_code_0) rfl rfl ?_
    show Steps p.tables e below (s₁.setTop (mkF m 1 #[.val (.ref a), .val (.ref b), .val (.int (0 : Int32))] [(.ref a)])) _
    refine st1.trans ?_
    show Steps p.tables e below (T1.setTop (mkF m 4 #[.val (.ref a), .val (.ref b), .val (.int (0 : Int32))] [])) _
    refine XS.aloadN X1.here hx rfl (hb hby d_jdk_45_method_1_code_4) rfl rfl ?_
    show Steps p.tables e below (T1.setTop (mkF m 5 #[.val (.ref a), .val (.ref b), .val (.int (0 : Int32))] [(.ref a)])) _
    refine XS.aloadN X1.here hx rfl (hb hby d_jdk_45_method_1_code_5) rfl rfl ?_
    show Steps p.tables e below (T1.setTop (mkF m 6 #[.val (.ref a), .val (.ref b), .val (.int (0 : Int32))] [(.ref b), (.ref a)])) _
    refine st3 _ ?_
    show Steps p.tables e below (T3.setTop (mkF m 9 #[.val (.ref a), .val (.ref b), .val (.int (0 : Int32))] [])) _
    refine XS.aloadN X3.here hx rfl (hb hby d_jdk_45_method_1_code_9) rfl rfl ?_
    show Steps p.tables e below (T3.setTop (mkF m 10 #[.val (.ref a), .val (.ref b), .val (.int (0 : Int32))] [(.ref a)])) _
    refine XS.iloadN X3.here hx rfl (hb hby d_jdk_45_method_1_code_10) rfl ?_
    show Steps p.tables e below (T3.setTop (mkF m 11 #[.val (.ref a), .val (.ref b), .val (.int (0 : Int32))] [(.int (0 : Int32)), (.ref a)])) _
    refine st7 _ ?_
    show Steps p.tables e below (T7.setTop (mkF m 14 #[.val (.ref a), .val (.ref b), .val (.int (0 : Int32))] [])) _
    exact X7.returnOut hx Bd.returns (hb hby d_jdk_45_method_1_code_14) hretL
  · show Q_rmlni Z a b h0 n0 _ T7.heap _
    rw [e7]
    exact ⟨rfl, N8, K8, f9⟩
theorem d_jdk_56_method_4_code_0 : decode jdk_56_method_4_code 0 = .ok (.aload_n 0, 1) := by decide +kernel
theorem d_jdk_56_method_4_code_1 : decode jdk_56_method_4_code 1 = .ok (.arraylength, 1) := by decide +kernel
theorem d_jdk_56_method_4_code_2 : decode jdk_56_method_4_code 2 = .ok (.anewarray 2, 3) := by decide +kernel
theorem d_jdk_56_method_4_code_5 : decode jdk_56_method_4_code 5 = .ok (.astore_n 1, 1) := by decide +kernel
theorem d_jdk_56_method_4_code_6 : decode jdk_56_method_4_code 6 = .ok (.iconst 0, 1) := by decide +kernel
theorem d_jdk_56_method_4_code_7 : decode jdk_56_method_4_code 7 = .ok (.istore_n 2, 1) := by decide +kernel
theorem d_jdk_56_method_4_code_8 : decode jdk_56_method_4_code 8 = .ok (.iload_n 2, 1) := by decide +kernel
theorem d_jdk_56_method_4_code_9 : decode jdk_56_method_4_code 9 = .ok (.aload_n 0, 1) := by decide +kernel
theorem d_jdk_56_method_4_code_10 : decode jdk_56_method_4_code 10 = .ok (.arraylength, 1) := by decide +kernel
theorem d_jdk_56_method_4_code_11 : decode jdk_56_method_4_code 11 = .ok (.if_icmp .ge 18, 3) := by decide +kernel
theorem d_jdk_56_method_4_code_14 : decode jdk_56_method_4_code 14 = .ok (.aload_n 1, 1) := by decide +kernel
theorem d_jdk_56_method_4_code_15 : decode jdk_56_method_4_code 15 = .ok (.iload_n 2, 1) := by decide +kernel
theorem d_jdk_56_method_4_code_16 : decode jdk_56_method_4_code 16 = .ok (.aload_n 0, 1) := by decide +kernel
theorem d_jdk_56_method_4_code_17 : decode jdk_56_method_4_code 17 = .ok (.iload_n 2, 1) := by decide +kernel
theorem d_jdk_56_method_4_code_18 : decode jdk_56_method_4_code 18 = .ok (.aaload, 1) := by decide +kernel
theorem d_jdk_56_method_4_code_19 : decode jdk_56_method_4_code 19 = .ok (.invokestatic 37, 3) := by decide +kernel
theorem d_jdk_56_method_4_code_22 : decode jdk_56_method_4_code 22 = .ok (.aastore, 1) := by decide +kernel
theorem d_jdk_56_method_4_code_23 : decode jdk_56_method_4_code 23 = .ok (.iinc 2 1, 3) := by decide +kernel
theorem d_jdk_56_method_4_code_26 : decode jdk_56_method_4_code 26 = .ok (.goto (-18), 3) := by decide +kernel
theorem d_jdk_56_method_4_code_29 : decode jdk_56_method_4_code 29 = .ok (.new 12, 3) := by decide +kernel
theorem d_jdk_56_method_4_code_32 : decode jdk_56_method_4_code 32 = .ok (.dup, 1) := by decide +kernel
theorem d_jdk_56_method_4_code_33 : decode jdk_56_method_4_code 33 = .ok (.aload_n 1, 1) := by decide +kernel
theorem d_jdk_56_method_4_code_34 : decode jdk_56_method_4_code 34 = .ok (.iconst 0, 1) := by decide +kernel
theorem d_jdk_56_method_4_code_35 : decode jdk_56_method_4_code 35 = .ok (.invokespecial 43, 3) := by decide +kernel
theorem d_jdk_56_method_4_code_38 : decode jdk_56_method_4_code 38 = .ok (.areturn, 1) := by decide +kernel
def Q_rmlfa (Z : State) (b : Addr) (k2 : ClassId) (C : String) (sp : Addr) (h0 : Heap) (n0 : Nat) (v : Option Value) (h : Heap) (L : List Loc) : Prop := ∃ (r t : Addr) (kt : ClassId), v = some (.ref r) ∧ Fr n0 L ∧ Keep h0 h [] ∧ Exa Z h r "java/util/ImmutableCollections$ListN" ∧ Fld Z h r "java/util/ImmutableCollections$ListN" "elements" "[Ljava/lang/Object;" (.ref t) ∧ Arv Z h t kt (.object "java/lang/Object") (3 : Int32) [(.ref sp), (.ref sp), (.ref sp)] .null
theorem ef_rmlfa (m : MethodId) (b : Addr) : entryFrame m #[(.ref b)] 3 = mkF m 0 #[.val (.ref b), .unset, .unset] [] := by first | (simp [entryFrame, mkF, argsToLocals, Value.category]; done) | rfl
set_option maxRecDepth 65536 in
set_option maxHeartbeats 40000000 in
theorem rmlfa (l : Launch) (Z : State) (a0 : Array Value) (hw : ∀ d ∈ tables_1, d.before a0 Z = true) (ws : List Jvm.Cond) (b : Addr) (k2 : ClassId) (C : String) (sp : Addr) (h0 : Heap) (n0 : Nat) (O0 : Old Z n0 h0) (Ab : Arv Z h0 b k2 (.object "java/lang/Object") (3 : Int32) [(.ref sp), (.ref sp), (.ref sp)] .null) (Esp : Exa Z h0 sp C) (hcast : (Jvm.Cond.castable C "java/lang/Object").before a0 Z = true) :
    MetFree l (⟨"java/util/ImmutableCollections", "listFromArray", "([Ljava/lang/Object;)Ljava/util/List;"⟩ : MethodName) (head1 (Jvm.Cond.code (⟨"java/util/ImmutableCollections", "listFromArray", "([Ljava/lang/Object;)Ljava/util/List;"⟩ : MethodName) jdk_56_method_4_code 3 (some (.object "java/util/List")) :: ws) ({ frames := 5, cells := 2, slots := 5, locals := 63 } : Room)) (fun aa U => aa = #[(.ref b)] ∧ Z.Warmed39 U.vm ∧ U.heap = h0) (fun _ _ _ _ _ => True) (fun _ U o U' => ∃ v L, o = .returned v ∧ Q_rmlfa Z b k2 C sp h0 n0 v U'.heap L ∧ FrameEnd U o U' L ({ frames := 5, cells := 2, slots := 5, locals := 63 } : Room).cells ({ frames := 5, cells := 2, slots := 5, locals := 63 } : Room).slots) := by
  refine MetFree.of_bodySF (plainFor_of_name pn11) hisR ?_
  intro p e s m args below meth c s₁ Bd hml0 hP hK
  obtain ⟨rfl, hZ, hh⟩ := hP
  have hx := Bd.exec
  have hby := Bd.bytes
  have hml : c.maxLocals = 3 := hml0
  have hown : s.vm.findClass "java/util/ImmutableCollections" = some m.cls := findClass_of_methodNamed Bd.named
  have hnm := (name_of_methodNamed Bd.named Bd.method).1
  have X0 : Stand p l e ({ frames := 5, cells := 2, slots := 5, locals := 63 } : Room) s m #[(.ref b)] below meth c s₁ [] 0 0 := Stand.of_body Bd
  have e0 : s₁.heap = h0 := by rw [← hh, Bd.state]; rfl
  have N0 := Fr.nil n0
  have K0 : Keep h0 h0 [] := Keep.refl _ _
  have pre0 : ∀ tgt, Steps p.tables e below (s₁.setTop (mkF m 0 #[.val (.ref b), .unset, .unset] [])) tgt → Steps p.tables e below (s₁.setTop (entryFrame m #[(.ref b)] 3)) tgt := fun tgt kgo => castTop (ef_rmlfa m b) kgo
  obtain ⟨cl1, Ar1, q1, S1, M1, H1, G1⟩ := id Ab
  obtain ⟨T2, h2, k2, X2, e2, E2, A2, Ex2, Ov2, st2⟩ := newRE X0 hx hZ hown (ow158 hw) (ow86 hw) e0 (g := (mkF m 2 #[.val (.ref b), .unset, .unset] [(.int (3 : Int32))])) rfl (hb hby d_jdk_56_method_4_code_2) rfl (by decide) (cap := 3) (by decide) (by decide) (by decide) (by decide) (ad := "[Ljava/lang/Object;") rfl
  obtain ⟨b2, g2⟩ : ∃ z, z = h0.size := ⟨_, rfl⟩
  rw [← g2] at A2 st2 Ex2
  have V2 : Arv Z h2 b2 k2 (.object "java/lang/Object") (3 : Int32) [.null, .null, .null] .null := (Arv.new A2 (by decide)).pad (pad_rep [] .null 3)
  have gn2 : n0 ≤ b2 := Nat.le_trans (own_sz O0) (Nat.le_of_eq g2.symm)
  have sz2 : h0.size ≤ b2 := Nat.le_trans K0.1 (Nat.le_of_eq g2.symm)
  have neb_2 : b ≠ b2 := Nat.ne_of_lt (Nat.lt_of_lt_of_le Ab.lt (Nat.le_of_eq g2.symm))
  have nesp_2 : sp ≠ b2 := Nat.ne_of_lt (Nat.lt_of_lt_of_le Esp.lt (Nat.le_of_eq g2.symm))
  have Ol3 := O0.ext E2
  have K3 := K0.ext E2
  have f4 := (Ab.ext E2)
  obtain ⟨cl5, Ar5, q5, S5, M5, H5, G5⟩ := id f4
  obtain ⟨cl6, Ar6, q6, S6, M6, H6, G6⟩ := id f4
  have hin6 : ¬ ((0 : Int32) < 0 ∨ cl6.slots.size ≤ ((0 : Int32)).toNatClampNeg) := inb_of S6 ⟨by decide, by decide⟩
  have hat6 : cl6.slots[((0 : Int32)).toNatClampNeg]? = some (.ref sp) := H6.at hin6 rfl
  obtain ⟨_, _, ⟨T7, L7, k7, n7⟩, -, X7, ⟨Lc7, hQ7, l7, y7, z7⟩, st7⟩ := Jvm.LawKit.callS X2 hx (y := (⟨"java/util/Objects", "requireNonNull", "(Ljava/lang/Object;)Ljava/lang/Object;"⟩ : MethodName)) hown (mvT hZ (ow159 hw)) (mvT hZ (ow160 hw)) (mvT hZ (ow161 hw)) (mvT hZ (ow162 hw)) (by decide) (backOf (W := 2) (rmnn l Z a0 hw [] sp  h2 n0 Ol3 ) hZ (ow162 hw) (ow161 hw) (by decide) (by decide)) (g := (mkF m 19 #[.val (.ref b), .val (.ref b2), .val (.int (0 : Int32))] [(.ref sp), (.int (0 : Int32)), (.ref b2)])) rfl (by rw [hml]; rfl) (argsL := [(.ref sp)]) (rest := [(.int (0 : Int32)), (.ref b2)]) (lenOf pd5 rfl) rfl (by show 2 * 0 + _ ≤ _; exact Nat.le_of_eq rfl) (hb hby d_jdk_56_method_4_code_19) (fun _ _ => ⟨rfl, e2, (by decide : 1 + 0 ≤ _), (by decide : 3 + 0 ≤ _)⟩)
  dsimp only [Pt.U, Pt.locs, Pt.cells, Pt.slots] at X7 l7 y7 z7 st7 hQ7
  subst l7 y7 z7
  obtain ⟨rfl, Nq7, eq7⟩ := hQ7
  have N8 := Fr.app N0 Nq7
  obtain ⟨cl9, Ar9, q9, S9, M9, H9, G9⟩ := id V2
  have hin9 : ¬ ((0 : Int32) < 0 ∨ cl9.slots.size ≤ ((0 : Int32)).toNatClampNeg) := inb_of S9 ⟨by decide, by decide⟩
  have f10 := (Esp.ext E2)
  obtain ⟨T11, h11, X11, e11, W11, st11⟩ := stR X7 hx hZ eq7 Ar9 (j := (0 : Int32)) hin9 rfl (Sto.ofV Ar9 q9 Ov2 (Ins.of_exa f10 hcast)) (g := (mkF m 22 #[.val (.ref b), .val (.ref b2), .val (.int (0 : Int32))] [(.ref sp), (.int (0 : Int32)), (.ref b2)])) rfl rfl (hb hby d_jdk_56_method_4_code_22)
  have V11 : Arv Z h11 b2 k2 (.object "java/lang/Object") (3 : Int32) [(.ref sp), .null, .null] .null := Arv.set Ar9 q9 S9 M9 H9 G9 rfl W11 0 rfl (Nat.le_of_ble_eq_true rfl)
  have N12 := Fr.snoc X11 N8 gn2
  have Ol12 := Ol3.wr W11 gn2
  have K12 := K3.wr W11 (Or.inr sz2)
  have f13 := (f4.other W11 neb_2)
  obtain ⟨cl14, Ar14, q14, S14, M14, H14, G14⟩ := id f13
  obtain ⟨cl15, Ar15, q15, S15, M15, H15, G15⟩ := id f13
  have hin15 : ¬ ((1 : Int32) < 0 ∨ cl15.slots.size ≤ ((1 : Int32)).toNatClampNeg) := inb_of S15 ⟨by decide, by decide⟩
  have hat15 : cl15.slots[((1 : Int32)).toNatClampNeg]? = some (.ref sp) := H15.at hin15 rfl
  obtain ⟨_, _, ⟨T16, L16, k16, n16⟩, -, X16, ⟨Lc16, hQ16, l16, y16, z16⟩, st16⟩ := Jvm.LawKit.callS X11 hx (y := (⟨"java/util/Objects", "requireNonNull", "(Ljava/lang/Object;)Ljava/lang/Object;"⟩ : MethodName)) hown (mvT hZ (ow159 hw)) (mvT hZ (ow160 hw)) (mvT hZ (ow161 hw)) (mvT hZ (ow162 hw)) (by decide) (backOf (W := 2) (rmnn l Z a0 hw [] sp  h11 n0 Ol12 ) hZ (ow162 hw) (ow161 hw) (by decide) (by decide)) (g := (mkF m 19 #[.val (.ref b), .val (.ref b2), .val (.int (1 : Int32))] [(.ref sp), (.int (1 : Int32)), (.ref b2)])) rfl (by rw [hml]; rfl) (argsL := [(.ref sp)]) (rest := [(.int (1 : Int32)), (.ref b2)]) (lenOf pd5 rfl) rfl (by show 2 * 0 + _ ≤ _; exact Nat.le_of_eq rfl) (hb hby d_jdk_56_method_4_code_19) (fun _ _ => ⟨rfl, e11, (by decide : 1 + 0 ≤ _), (by decide : 3 + 0 ≤ _)⟩)
  dsimp only [Pt.U, Pt.locs, Pt.cells, Pt.slots] at X16 l16 y16 z16 st16 hQ16
  subst l16 y16 z16
  obtain ⟨rfl, Nq16, eq16⟩ := hQ16
  have N17 := Fr.app N12 Nq16
  obtain ⟨cl18, Ar18, q18, S18, M18, H18, G18⟩ := id V11
  have hin18 : ¬ ((1 : Int32) < 0 ∨ cl18.slots.size ≤ ((1 : Int32)).toNatClampNeg) := inb_of S18 ⟨by decide, by decide⟩
  have f19 := (f10.wr W11)
  obtain ⟨T20, h20, X20, e20, W20, st20⟩ := stR X16 hx hZ eq16 Ar18 (j := (1 : Int32)) hin18 rfl (Sto.ofV Ar18 q18 Ov2 (Ins.of_exa f19 hcast)) (g := (mkF m 22 #[.val (.ref b), .val (.ref b2), .val (.int (1 : Int32))] [(.ref sp), (.int (1 : Int32)), (.ref b2)])) rfl rfl (hb hby d_jdk_56_method_4_code_22)
  have V20 : Arv Z h20 b2 k2 (.object "java/lang/Object") (3 : Int32) [(.ref sp), (.ref sp), .null] .null := Arv.set Ar18 q18 S18 M18 H18 G18 rfl W20 1 rfl (Nat.le_of_ble_eq_true rfl)
  have N21 := Fr.snoc X20 N17 gn2
  have Ol21 := Ol12.wr W20 gn2
  have K21 := K12.wr W20 (Or.inr sz2)
  have f22 := (f13.other W20 neb_2)
  obtain ⟨cl23, Ar23, q23, S23, M23, H23, G23⟩ := id f22
  obtain ⟨cl24, Ar24, q24, S24, M24, H24, G24⟩ := id f22
  have hin24 : ¬ ((2 : Int32) < 0 ∨ cl24.slots.size ≤ ((2 : Int32)).toNatClampNeg) := inb_of S24 ⟨by decide, by decide⟩
  have hat24 : cl24.slots[((2 : Int32)).toNatClampNeg]? = some (.ref sp) := H24.at hin24 rfl
  obtain ⟨_, _, ⟨T25, L25, k25, n25⟩, -, X25, ⟨Lc25, hQ25, l25, y25, z25⟩, st25⟩ := Jvm.LawKit.callS X20 hx (y := (⟨"java/util/Objects", "requireNonNull", "(Ljava/lang/Object;)Ljava/lang/Object;"⟩ : MethodName)) hown (mvT hZ (ow159 hw)) (mvT hZ (ow160 hw)) (mvT hZ (ow161 hw)) (mvT hZ (ow162 hw)) (by decide) (backOf (W := 2) (rmnn l Z a0 hw [] sp  h20 n0 Ol21 ) hZ (ow162 hw) (ow161 hw) (by decide) (by decide)) (g := (mkF m 19 #[.val (.ref b), .val (.ref b2), .val (.int (2 : Int32))] [(.ref sp), (.int (2 : Int32)), (.ref b2)])) rfl (by rw [hml]; rfl) (argsL := [(.ref sp)]) (rest := [(.int (2 : Int32)), (.ref b2)]) (lenOf pd5 rfl) rfl (by show 2 * 0 + _ ≤ _; exact Nat.le_of_eq rfl) (hb hby d_jdk_56_method_4_code_19) (fun _ _ => ⟨rfl, e20, (by decide : 1 + 0 ≤ _), (by decide : 3 + 0 ≤ _)⟩)
  dsimp only [Pt.U, Pt.locs, Pt.cells, Pt.slots] at X25 l25 y25 z25 st25 hQ25
  subst l25 y25 z25
  obtain ⟨rfl, Nq25, eq25⟩ := hQ25
  have N26 := Fr.app N21 Nq25
  obtain ⟨cl27, Ar27, q27, S27, M27, H27, G27⟩ := id V20
  have hin27 : ¬ ((2 : Int32) < 0 ∨ cl27.slots.size ≤ ((2 : Int32)).toNatClampNeg) := inb_of S27 ⟨by decide, by decide⟩
  have f28 := (f19.wr W20)
  obtain ⟨T29, h29, X29, e29, W29, st29⟩ := stR X25 hx hZ eq25 Ar27 (j := (2 : Int32)) hin27 rfl (Sto.ofV Ar27 q27 Ov2 (Ins.of_exa f28 hcast)) (g := (mkF m 22 #[.val (.ref b), .val (.ref b2), .val (.int (2 : Int32))] [(.ref sp), (.int (2 : Int32)), (.ref b2)])) rfl rfl (hb hby d_jdk_56_method_4_code_22)
  have V29 : Arv Z h29 b2 k2 (.object "java/lang/Object") (3 : Int32) [(.ref sp), (.ref sp), (.ref sp)] .null := Arv.set Ar27 q27 S27 M27 H27 G27 rfl W29 2 rfl (Nat.le_of_ble_eq_true rfl)
  have N30 := Fr.snoc X29 N26 gn2
  have Ol30 := Ol21.wr W29 gn2
  have K30 := K21.wr W29 (Or.inr sz2)
  have f31 := (f22.other W29 neb_2)
  obtain ⟨cl32, Ar32, q32, S32, M32, H32, G32⟩ := id f31
  have f33 := (f28.wr W29)
  obtain ⟨T34, h34, X34, e34, E34, A34, D34, U34, st34⟩ := newO X29 hx hZ hown (ow108 hw) (ow163 hw) (ow164 hw) e29 (g := (mkF m 29 #[.val (.ref b), .val (.ref b2), .val (.int (3 : Int32))] [])) rfl (hb hby d_jdk_56_method_4_code_29) (by decide) (by decide)
  obtain ⟨b34, g34⟩ : ∃ z, z = h29.size := ⟨_, rfl⟩
  rw [← g34] at A34 D34 U34 st34
  have gn34 : n0 ≤ b34 := Nat.le_trans (own_sz Ol30) (Nat.le_of_eq g34.symm)
  have sz34 : h0.size ≤ b34 := Nat.le_trans K30.1 (Nat.le_of_eq g34.symm)
  have neb_34 : b ≠ b34 := Nat.ne_of_lt (Nat.lt_of_lt_of_le f31.lt (Nat.le_of_eq g34.symm))
  have nesp_34 : sp ≠ b34 := Nat.ne_of_lt (Nat.lt_of_lt_of_le f33.lt (Nat.le_of_eq g34.symm))
  have neb2_34 : b2 ≠ b34 := Nat.ne_of_lt (Nat.lt_of_lt_of_le V29.lt (Nat.le_of_eq g34.symm))
  have Ol35 := Ol30.ext E34
  have K35 := K30.ext E34
  have Felements_34 : Fld Z h34 b34 "java/util/ImmutableCollections$ListN" "elements" "[Ljava/lang/Object;" .null := D34 (Or.inr (ow184 hw)) (ty := (.array (.object "java/lang/Object"))) (by decide)
  have FallowNulls_34 : Fld Z h34 b34 "java/util/ImmutableCollections$ListN" "allowNulls" "Z" (.int (0 : Int32)) := D34 (Or.inr (ow186 hw)) (ty := .boolean) (by decide)
  obtain ⟨_, _, ⟨T36, L36, k36, n36⟩, -, X36, ⟨Lc36, hQ36, l36, y36, z36⟩, st36⟩ := X34.specialBackNest hx (y := (⟨"java/util/ImmutableCollections$ListN", "<init>", "([Ljava/lang/Object;Z)V"⟩ : MethodName)) rfl hown (mvLN hZ (ow165 hw)) (mvT hZ (ow166 hw)) (mvT hZ (ow168 hw)) (by decide) (backOf (W := 1) (rmlni l Z a0 hw [] b34 b2  h34 n0 Ol35 A34 Felements_34 FallowNulls_34 gn34) hZ (ow168 hw) (ow164 hw) (by decide) (by decide)) (g := (mkF m 35 #[.val (.ref b), .val (.ref b2), .val (.int (3 : Int32))] [(.int (0 : Int32)), (.ref b2), (.ref b34), (.ref b34)])) rfl (by rw [hml]; rfl) (Steps.refl _) (a := b34) (argsL := [(.ref b2), (.int (0 : Int32))]) (rest := [(.ref b34)]) (lenOf pd6 rfl) rfl (by show 2 * 0 + _ ≤ _; exact Nat.le_of_eq rfl) (hb hby d_jdk_56_method_4_code_35) (fun _ _ => ⟨rfl, e34, (by decide : 2 + 0 ≤ _), (by decide : 5 + 0 ≤ _)⟩)
  dsimp only [Pt.U, Pt.locs, Pt.cells, Pt.slots] at X36 l36 y36 z36 st36 hQ36
  subst l36 y36 z36
  obtain ⟨rfl, Nq36, kp36, fe36⟩ := hQ36
  have N37 := Fr.app N30 Nq36
  have Ol38 := Ol35.keep kp36 (allS gn34 all0)
  have K38 := K35.trans kp36 (allS (Or.inr sz34) all0)
  have f39 := (A34.keep kp36)
  have f40 := ((V29.ext E34).keep kp36 (ninS neb2_34 nin0))
  obtain ⟨fs, hretL, hrun, hended, hW, hsame⟩ := X36.leave (v := some (.ref b34)) (fun h => by rw [Bd.returns] at h; cases h)
  refine ⟨_, _, pre0 _ ?_, hrun, hended, _, _, rfl, ?_, ⟨_, rfl⟩, hW, hsame.mono (by decide) (by decide)⟩
  · refine XS.aloadN X0.here hx rfl (hb hby d_jdk_56_method_4_code_0) rfl rfl ?_
    show Steps p.tables e below (s₁.setTop (mkF m 1 #[.val (.ref b), .unset, .unset] [(.ref b)])) _
    refine X0.arraylength hx (by rw [e0]; exact Ar1.1) (State.isArrayOf_alike hZ.alike Ar1.2.1) (g := (mkF m 1 #[.val (.ref b), .unset, .unset] [(.ref b)])) rfl rfl (hb hby d_jdk_56_method_4_code_1) _ ?_
    rw [len_of S1 M1]
    show Steps p.tables e below (s₁.setTop (mkF m 2 #[.val (.ref b), .unset, .unset] [(.int (3 : Int32))])) _
    refine st2 _ ?_
    show Steps p.tables e below (T2.setTop (mkF m 5 #[.val (.ref b), .unset, .unset] [(.ref b2)])) _
    refine XS.astoreN X2.here hx rfl (hb hby d_jdk_56_method_4_code_5) rfl rfl (l' := #[.val (.ref b), .val (.ref b2), .unset]) rfl ?_
    show Steps p.tables e below (T2.setTop (mkF m 6 #[.val (.ref b), .val (.ref b2), .unset] [])) _
    refine XS.iconst X2.here hx rfl (hb hby d_jdk_56_method_4_code_6) ?_
    show Steps p.tables e below (T2.setTop (mkF m 7 #[.val (.ref b), .val (.ref b2), .unset] [(.int (0 : Int32))])) _
    refine XS.istoreN X2.here hx rfl (hb hby d_jdk_56_method_4_code_7) rfl (l' := #[.val (.ref b), .val (.ref b2), .val (.int (0 : Int32))]) rfl ?_
    show Steps p.tables e below (T2.setTop (mkF m 8 #[.val (.ref b), .val (.ref b2), .val (.int (0 : Int32))] [])) _
    refine XS.iloadN X2.here hx rfl (hb hby d_jdk_56_method_4_code_8) rfl ?_
    show Steps p.tables e below (T2.setTop (mkF m 9 #[.val (.ref b), .val (.ref b2), .val (.int (0 : Int32))] [(.int (0 : Int32))])) _
    refine XS.aloadN X2.here hx rfl (hb hby d_jdk_56_method_4_code_9) rfl rfl ?_
    show Steps p.tables e below (T2.setTop (mkF m 10 #[.val (.ref b), .val (.ref b2), .val (.int (0 : Int32))] [(.ref b), (.int (0 : Int32))])) _
    refine X2.arraylength hx (by rw [e2]; exact Ar5.1) (State.isArrayOf_alike hZ.alike Ar5.2.1) (g := (mkF m 10 #[.val (.ref b), .val (.ref b2), .val (.int (0 : Int32))] [(.ref b), (.int (0 : Int32))])) rfl rfl (hb hby d_jdk_56_method_4_code_10) _ ?_
    rw [len_of S5 M5]
    show Steps p.tables e below (T2.setTop (mkF m 11 #[.val (.ref b), .val (.ref b2), .val (.int (0 : Int32))] [(.int (3 : Int32)), (.int (0 : Int32))])) _
    refine XS.icmpNo X2.here hx rfl (hb hby d_jdk_56_method_4_code_11) rfl (tlt (by decide : (0 : Int32) < (3 : Int32))).2.1 ?_
    show Steps p.tables e below (T2.setTop (mkF m 14 #[.val (.ref b), .val (.ref b2), .val (.int (0 : Int32))] [])) _
    refine XS.aloadN X2.here hx rfl (hb hby d_jdk_56_method_4_code_14) rfl rfl ?_
    show Steps p.tables e below (T2.setTop (mkF m 15 #[.val (.ref b), .val (.ref b2), .val (.int (0 : Int32))] [(.ref b2)])) _
    refine XS.iloadN X2.here hx rfl (hb hby d_jdk_56_method_4_code_15) rfl ?_
    show Steps p.tables e below (T2.setTop (mkF m 16 #[.val (.ref b), .val (.ref b2), .val (.int (0 : Int32))] [(.int (0 : Int32)), (.ref b2)])) _
    refine XS.aloadN X2.here hx rfl (hb hby d_jdk_56_method_4_code_16) rfl rfl ?_
    show Steps p.tables e below (T2.setTop (mkF m 17 #[.val (.ref b), .val (.ref b2), .val (.int (0 : Int32))] [(.ref b), (.int (0 : Int32)), (.ref b2)])) _
    refine XS.iloadN X2.here hx rfl (hb hby d_jdk_56_method_4_code_17) rfl ?_
    show Steps p.tables e below (T2.setTop (mkF m 18 #[.val (.ref b), .val (.ref b2), .val (.int (0 : Int32))] [(.int (0 : Int32)), (.ref b), (.int (0 : Int32)), (.ref b2)])) _
    refine X2.aaload hx (j := (0 : Int32)) (v := (.ref sp)) (by rw [e2]; exact Ar6.1) (State.isArrayOf_alike hZ.alike Ar6.2.1) rfl Ar6.2.2 hin6 hat6 (g := (mkF m 18 #[.val (.ref b), .val (.ref b2), .val (.int (0 : Int32))] [(.int (0 : Int32)), (.ref b), (.int (0 : Int32)), (.ref b2)])) rfl rfl (hb hby d_jdk_56_method_4_code_18) _ ?_
    show Steps p.tables e below (T2.setTop (mkF m 19 #[.val (.ref b), .val (.ref b2), .val (.int (0 : Int32))] [(.ref sp), (.int (0 : Int32)), (.ref b2)])) _
    refine st7 _ ?_
    show Steps p.tables e below (T7.setTop (mkF m 22 #[.val (.ref b), .val (.ref b2), .val (.int (0 : Int32))] [(.ref sp), (.int (0 : Int32)), (.ref b2)])) _
    refine st11 _ ?_
    show Steps p.tables e below (T11.setTop (mkF m 23 #[.val (.ref b), .val (.ref b2), .val (.int (0 : Int32))] [])) _
    refine XS.iinc X11.here hx rfl (hb hby d_jdk_56_method_4_code_23) rfl (l' := #[.val (.ref b), .val (.ref b2), .val (.int (1 : Int32))]) rfl ?_
    show Steps p.tables e below (T11.setTop (mkF m 26 #[.val (.ref b), .val (.ref b2), .val (.int (1 : Int32))] [])) _
    refine XS.goto X11.here hx rfl (pc0 := 26) (pc' := 8) rfl (hb hby d_jdk_56_method_4_code_26) (by decide) (by decide) ?_
    show Steps p.tables e below (T11.setTop (mkF m 8 #[.val (.ref b), .val (.ref b2), .val (.int (1 : Int32))] [])) _
    refine XS.iloadN X11.here hx rfl (hb hby d_jdk_56_method_4_code_8) rfl ?_
    show Steps p.tables e below (T11.setTop (mkF m 9 #[.val (.ref b), .val (.ref b2), .val (.int (1 : Int32))] [(.int (1 : Int32))])) _
    refine XS.aloadN X11.here hx rfl (hb hby d_jdk_56_method_4_code_9) rfl rfl ?_
    show Steps p.tables e below (T11.setTop (mkF m 10 #[.val (.ref b), .val (.ref b2), .val (.int (1 : Int32))] [(.ref b), (.int (1 : Int32))])) _
    refine X11.arraylength hx (by rw [e11]; exact Ar14.1) (State.isArrayOf_alike hZ.alike Ar14.2.1) (g := (mkF m 10 #[.val (.ref b), .val (.ref b2), .val (.int (1 : Int32))] [(.ref b), (.int (1 : Int32))])) rfl rfl (hb hby d_jdk_56_method_4_code_10) _ ?_
    rw [len_of S14 M14]
    show Steps p.tables e below (T11.setTop (mkF m 11 #[.val (.ref b), .val (.ref b2), .val (.int (1 : Int32))] [(.int (3 : Int32)), (.int (1 : Int32))])) _
    refine XS.icmpNo X11.here hx rfl (hb hby d_jdk_56_method_4_code_11) rfl (tlt (by decide : (1 : Int32) < (3 : Int32))).2.1 ?_
    show Steps p.tables e below (T11.setTop (mkF m 14 #[.val (.ref b), .val (.ref b2), .val (.int (1 : Int32))] [])) _
    refine XS.aloadN X11.here hx rfl (hb hby d_jdk_56_method_4_code_14) rfl rfl ?_
    show Steps p.tables e below (T11.setTop (mkF m 15 #[.val (.ref b), .val (.ref b2), .val (.int (1 : Int32))] [(.ref b2)])) _
    refine XS.iloadN X11.here hx rfl (hb hby d_jdk_56_method_4_code_15) rfl ?_
    show Steps p.tables e below (T11.setTop (mkF m 16 #[.val (.ref b), .val (.ref b2), .val (.int (1 : Int32))] [(.int (1 : Int32)), (.ref b2)])) _
    refine XS.aloadN X11.here hx rfl (hb hby d_jdk_56_method_4_code_16) rfl rfl ?_
    show Steps p.tables e below (T11.setTop (mkF m 17 #[.val (.ref b), .val (.ref b2), .val (.int (1 : Int32))] [(.ref b), (.int (1 : Int32)), (.ref b2)])) _
    refine XS.iloadN X11.here hx rfl (hb hby d_jdk_56_method_4_code_17) rfl ?_
    show Steps p.tables e below (T11.setTop (mkF m 18 #[.val (.ref b), .val (.ref b2), .val (.int (1 : Int32))] [(.int (1 : Int32)), (.ref b), (.int (1 : Int32)), (.ref b2)])) _
    refine X11.aaload hx (j := (1 : Int32)) (v := (.ref sp)) (by rw [e11]; exact Ar15.1) (State.isArrayOf_alike hZ.alike Ar15.2.1) rfl Ar15.2.2 hin15 hat15 (g := (mkF m 18 #[.val (.ref b), .val (.ref b2), .val (.int (1 : Int32))] [(.int (1 : Int32)), (.ref b), (.int (1 : Int32)), (.ref b2)])) rfl rfl (hb hby d_jdk_56_method_4_code_18) _ ?_
    show Steps p.tables e below (T11.setTop (mkF m 19 #[.val (.ref b), .val (.ref b2), .val (.int (1 : Int32))] [(.ref sp), (.int (1 : Int32)), (.ref b2)])) _
    refine st16 _ ?_
    show Steps p.tables e below (T16.setTop (mkF m 22 #[.val (.ref b), .val (.ref b2), .val (.int (1 : Int32))] [(.ref sp), (.int (1 : Int32)), (.ref b2)])) _
    refine st20 _ ?_
    show Steps p.tables e below (T20.setTop (mkF m 23 #[.val (.ref b), .val (.ref b2), .val (.int (1 : Int32))] [])) _
    refine XS.iinc X20.here hx rfl (hb hby d_jdk_56_method_4_code_23) rfl (l' := #[.val (.ref b), .val (.ref b2), .val (.int (2 : Int32))]) rfl ?_
    show Steps p.tables e below (T20.setTop (mkF m 26 #[.val (.ref b), .val (.ref b2), .val (.int (2 : Int32))] [])) _
    refine XS.goto X20.here hx rfl (pc0 := 26) (pc' := 8) rfl (hb hby d_jdk_56_method_4_code_26) (by decide) (by decide) ?_
    show Steps p.tables e below (T20.setTop (mkF m 8 #[.val (.ref b), .val (.ref b2), .val (.int (2 : Int32))] [])) _
    refine XS.iloadN X20.here hx rfl (hb hby d_jdk_56_method_4_code_8) rfl ?_
    show Steps p.tables e below (T20.setTop (mkF m 9 #[.val (.ref b), .val (.ref b2), .val (.int (2 : Int32))] [(.int (2 : Int32))])) _
    refine XS.aloadN X20.here hx rfl (hb hby d_jdk_56_method_4_code_9) rfl rfl ?_
    show Steps p.tables e below (T20.setTop (mkF m 10 #[.val (.ref b), .val (.ref b2), .val (.int (2 : Int32))] [(.ref b), (.int (2 : Int32))])) _
    refine X20.arraylength hx (by rw [e20]; exact Ar23.1) (State.isArrayOf_alike hZ.alike Ar23.2.1) (g := (mkF m 10 #[.val (.ref b), .val (.ref b2), .val (.int (2 : Int32))] [(.ref b), (.int (2 : Int32))])) rfl rfl (hb hby d_jdk_56_method_4_code_10) _ ?_
    rw [len_of S23 M23]
    show Steps p.tables e below (T20.setTop (mkF m 11 #[.val (.ref b), .val (.ref b2), .val (.int (2 : Int32))] [(.int (3 : Int32)), (.int (2 : Int32))])) _
    refine XS.icmpNo X20.here hx rfl (hb hby d_jdk_56_method_4_code_11) rfl (tlt (by decide : (2 : Int32) < (3 : Int32))).2.1 ?_
    show Steps p.tables e below (T20.setTop (mkF m 14 #[.val (.ref b), .val (.ref b2), .val (.int (2 : Int32))] [])) _
    refine XS.aloadN X20.here hx rfl (hb hby d_jdk_56_method_4_code_14) rfl rfl ?_
    show Steps p.tables e below (T20.setTop (mkF m 15 #[.val (.ref b), .val (.ref b2), .val (.int (2 : Int32))] [(.ref b2)])) _
    refine XS.iloadN X20.here hx rfl (hb hby d_jdk_56_method_4_code_15) rfl ?_
    show Steps p.tables e below (T20.setTop (mkF m 16 #[.val (.ref b), .val (.ref b2), .val (.int (2 : Int32))] [(.int (2 : Int32)), (.ref b2)])) _
    refine XS.aloadN X20.here hx rfl (hb hby d_jdk_56_method_4_code_16) rfl rfl ?_
    show Steps p.tables e below (T20.setTop (mkF m 17 #[.val (.ref b), .val (.ref b2), .val (.int (2 : Int32))] [(.ref b), (.int (2 : Int32)), (.ref b2)])) _
    refine XS.iloadN X20.here hx rfl (hb hby d_jdk_56_method_4_code_17) rfl ?_
    show Steps p.tables e below (T20.setTop (mkF m 18 #[.val (.ref b), .val (.ref b2), .val (.int (2 : Int32))] [(.int (2 : Int32)), (.ref b), (.int (2 : Int32)), (.ref b2)])) _
    refine X20.aaload hx (j := (2 : Int32)) (v := (.ref sp)) (by rw [e20]; exact Ar24.1) (State.isArrayOf_alike hZ.alike Ar24.2.1) rfl Ar24.2.2 hin24 hat24 (g := (mkF m 18 #[.val (.ref b), .val (.ref b2), .val (.int (2 : Int32))] [(.int (2 : Int32)), (.ref b), (.int (2 : Int32)), (.ref b2)])) rfl rfl (hb hby d_jdk_56_method_4_code_18) _ ?_
    show Steps p.tables e below (T20.setTop (mkF m 19 #[.val (.ref b), .val (.ref b2), .val (.int (2 : Int32))] [(.ref sp), (.int (2 : Int32)), (.ref b2)])) _
    refine st25 _ ?_
    show Steps p.tables e below (T25.setTop (mkF m 22 #[.val (.ref b), .val (.ref b2), .val (.int (2 : Int32))] [(.ref sp), (.int (2 : Int32)), (.ref b2)])) _
    refine st29 _ ?_
    show Steps p.tables e below (T29.setTop (mkF m 23 #[.val (.ref b), .val (.ref b2), .val (.int (2 : Int32))] [])) _
    refine XS.iinc X29.here hx rfl (hb hby d_jdk_56_method_4_code_23) rfl (l' := #[.val (.ref b), .val (.ref b2), .val (.int (3 : Int32))]) rfl ?_
    show Steps p.tables e below (T29.setTop (mkF m 26 #[.val (.ref b), .val (.ref b2), .val (.int (3 : Int32))] [])) _
    refine XS.goto X29.here hx rfl (pc0 := 26) (pc' := 8) rfl (hb hby d_jdk_56_method_4_code_26) (by decide) (by decide) ?_
    show Steps p.tables e below (T29.setTop (mkF m 8 #[.val (.ref b), .val (.ref b2), .val (.int (3 : Int32))] [])) _
    refine XS.iloadN X29.here hx rfl (hb hby d_jdk_56_method_4_code_8) rfl ?_
    show Steps p.tables e below (T29.setTop (mkF m 9 #[.val (.ref b), .val (.ref b2), .val (.int (3 : Int32))] [(.int (3 : Int32))])) _
    refine XS.aloadN X29.here hx rfl (hb hby d_jdk_56_method_4_code_9) rfl rfl ?_
    show Steps p.tables e below (T29.setTop (mkF m 10 #[.val (.ref b), .val (.ref b2), .val (.int (3 : Int32))] [(.ref b), (.int (3 : Int32))])) _
    refine X29.arraylength hx (by rw [e29]; exact Ar32.1) (State.isArrayOf_alike hZ.alike Ar32.2.1) (g := (mkF m 10 #[.val (.ref b), .val (.ref b2), .val (.int (3 : Int32))] [(.ref b), (.int (3 : Int32))])) rfl rfl (hb hby d_jdk_56_method_4_code_10) _ ?_
    rw [len_of S32 M32]
    show Steps p.tables e below (T29.setTop (mkF m 11 #[.val (.ref b), .val (.ref b2), .val (.int (3 : Int32))] [(.int (3 : Int32)), (.int (3 : Int32))])) _
    refine XS.icmpYes X29.here hx rfl (pc0 := 11) (pc' := 29) rfl (hb hby d_jdk_56_method_4_code_11) rfl (flt (by decide : ¬ ((3 : Int32) < (3 : Int32)))).2.1 (by decide) (by decide) ?_
    show Steps p.tables e below (T29.setTop (mkF m 29 #[.val (.ref b), .val (.ref b2), .val (.int (3 : Int32))] [])) _
    refine st34 _ ?_
    show Steps p.tables e below (T34.setTop (mkF m 32 #[.val (.ref b), .val (.ref b2), .val (.int (3 : Int32))] [(.ref b34)])) _
    refine XS.dup X34.here hx rfl (hb hby d_jdk_56_method_4_code_32) rfl rfl ?_
    show Steps p.tables e below (T34.setTop (mkF m 33 #[.val (.ref b), .val (.ref b2), .val (.int (3 : Int32))] [(.ref b34), (.ref b34)])) _
    refine XS.aloadN X34.here hx rfl (hb hby d_jdk_56_method_4_code_33) rfl rfl ?_
    show Steps p.tables e below (T34.setTop (mkF m 34 #[.val (.ref b), .val (.ref b2), .val (.int (3 : Int32))] [(.ref b2), (.ref b34), (.ref b34)])) _
    refine XS.iconst X34.here hx rfl (hb hby d_jdk_56_method_4_code_34) ?_
    show Steps p.tables e below (T34.setTop (mkF m 35 #[.val (.ref b), .val (.ref b2), .val (.int (3 : Int32))] [(.int (0 : Int32)), (.ref b2), (.ref b34), (.ref b34)])) _
    refine st36.trans ?_
    show Steps p.tables e below (T36.setTop (mkF m 38 #[.val (.ref b), .val (.ref b2), .val (.int (3 : Int32))] [(.ref b34)])) _
    exact retOut X36 hx Bd.returns rfl (Or.inr (Or.inr (Or.inr (Or.inr ⟨rfl, rfl, rfl⟩)))) (hb hby d_jdk_56_method_4_code_38) hretL
  · show Q_rmlfa Z b k2 C sp h0 n0 _ T36.heap _
    exact ⟨_, _, _, rfl, N37, K38, f39, fe36, f40⟩
theorem d_jdk_40_method_36_code_0 : decode jdk_40_method_36_code 0 = .ok (.getstatic 90, 3) := by decide +kernel
theorem d_jdk_40_method_36_code_3 : decode jdk_40_method_36_code 3 = .ok (.areturn, 1) := by decide +kernel
def Q_rmof0 (Z : State) (el : Addr) (h0 : Heap) (n0 : Nat) (v : Option Value) (h : Heap) (L : List Loc) : Prop := v = some (.ref el) ∧ Fr n0 L ∧ h = h0
theorem ef_rmof0 (m : MethodId)  : entryFrame m #[] 0 = mkF m 0 #[] [] := by first | (simp [entryFrame, mkF, argsToLocals, Value.category]; done) | rfl
set_option maxRecDepth 65536 in
set_option maxHeartbeats 40000000 in
theorem rmof0 (l : Launch) (Z : State) (a0 : Array Value) (hw : ∀ d ∈ tables_1, d.before a0 Z = true) (ws : List Jvm.Cond) (el : Addr) (h0 : Heap) (n0 : Nat) (O0 : Old Z n0 h0) (Sel : Sta Z Z.heap "java/util/ImmutableCollections" "EMPTY_LIST" "Ljava/util/ImmutableCollections$ListN;" (.ref el)) :
    MetFree l (⟨"java/util/List", "of", "()Ljava/util/List;"⟩ : MethodName) (head1 (Jvm.Cond.code (⟨"java/util/List", "of", "()Ljava/util/List;"⟩ : MethodName) jdk_40_method_36_code 0 (some (.object "java/util/List")) :: ws) ({ frames := 0, cells := 0, slots := 0, locals := 0 } : Room)) (fun aa U => aa = #[] ∧ Z.Warmed39 U.vm ∧ U.heap = h0) (fun _ _ _ _ _ => True) (fun _ U o U' => ∃ v L, o = .returned v ∧ Q_rmof0 Z el h0 n0 v U'.heap L ∧ FrameEnd U o U' L ({ frames := 0, cells := 0, slots := 0, locals := 0 } : Room).cells ({ frames := 0, cells := 0, slots := 0, locals := 0 } : Room).slots) := by
  refine MetFree.of_bodySF (plainFor_of_name pn12) hisR ?_
  intro p e s m args below meth c s₁ Bd hml0 hP hK
  obtain ⟨rfl, hZ, hh⟩ := hP
  have hx := Bd.exec
  have hby := Bd.bytes
  have hml : c.maxLocals = 0 := hml0
  have hown : s.vm.findClass "java/util/List" = some m.cls := findClass_of_methodNamed Bd.named
  have hnm := (name_of_methodNamed Bd.named Bd.method).1
  have X0 : Stand p l e ({ frames := 0, cells := 0, slots := 0, locals := 0 } : Room) s m #[] below meth c s₁ [] 0 0 := Stand.of_body Bd
  have e0 : s₁.heap = h0 := by rw [← hh, Bd.state]; rfl
  have N0 := Fr.nil n0
  have K0 : Keep h0 h0 [] := Keep.refl _ _
  have pre0 : ∀ tgt, Steps p.tables e below (s₁.setTop (mkF m 0 #[] [])) tgt → Steps p.tables e below (s₁.setTop (entryFrame m #[] 0)) tgt := fun tgt kgo => castTop (ef_rmof0 m ) kgo
  obtain ⟨T1, X1, e1, st1⟩ := getS2 X0 hx hZ hown (host := "") (Or.inl (ow121 hw)) Via.refl e0 (Sel.ext O0.2) (g := (mkF m 0 #[] [])) rfl (hb hby d_jdk_40_method_36_code_0)
  obtain ⟨fs, hretL, hrun, hended, hW, hsame⟩ := X1.leave (v := some (.ref el)) (fun h => by rw [Bd.returns] at h; cases h)
  refine ⟨_, _, pre0 _ ?_, hrun, hended, _, _, rfl, ?_, ⟨_, rfl⟩, hW, hsame.mono (by decide) (by decide)⟩
  · refine st1 _ ?_
    show Steps p.tables e below (T1.setTop (mkF m 3 #[] [(.ref el)])) _
    exact retOut X1 hx Bd.returns rfl (Or.inr (Or.inr (Or.inr (Or.inr ⟨rfl, rfl, rfl⟩)))) (hb hby d_jdk_40_method_36_code_3) hretL
  · show Q_rmof0 Z el h0 n0 _ T1.heap _
    rw [e1]
    exact ⟨rfl, N0, rfl⟩
theorem d_jdk_40_method_47_code_0 : decode jdk_40_method_47_code 0 = .ok (.aload_n 0, 1) := by decide +kernel
theorem d_jdk_40_method_47_code_1 : decode jdk_40_method_47_code 1 = .ok (.arraylength, 1) := by decide +kernel
theorem d_jdk_40_method_47_code_2 : decode jdk_40_method_47_code 2 = .ok (.tableswitch 57 0 2 #[26, 32, 43], 26) := by decide +kernel
theorem d_jdk_40_method_47_code_34 : decode jdk_40_method_47_code 34 = .ok (.new 96, 3) := by decide +kernel
theorem d_jdk_40_method_47_code_37 : decode jdk_40_method_47_code 37 = .ok (.dup, 1) := by decide +kernel
theorem d_jdk_40_method_47_code_38 : decode jdk_40_method_47_code 38 = .ok (.aload_n 0, 1) := by decide +kernel
theorem d_jdk_40_method_47_code_39 : decode jdk_40_method_47_code 39 = .ok (.iconst 0, 1) := by decide +kernel
theorem d_jdk_40_method_47_code_40 : decode jdk_40_method_47_code 40 = .ok (.aaload, 1) := by decide +kernel
theorem d_jdk_40_method_47_code_41 : decode jdk_40_method_47_code 41 = .ok (.invokespecial 98, 3) := by decide +kernel
theorem d_jdk_40_method_47_code_44 : decode jdk_40_method_47_code 44 = .ok (.areturn, 1) := by decide +kernel
def Q_rmof1 (Z : State) (b : Addr) (k2 : ClassId) (C : String) (sp : Addr) (em : Addr) (h0 : Heap) (n0 : Nat) (v : Option Value) (h : Heap) (L : List Loc) : Prop := ∃ (r : Addr), v = some (.ref r) ∧ Fr n0 L ∧ Keep h0 h [] ∧ Exa Z h r "java/util/ImmutableCollections$List12"
theorem ef_rmof1 (m : MethodId) (b : Addr) : entryFrame m #[(.ref b)] 2 = mkF m 0 #[.val (.ref b), .unset] [] := by first | (simp [entryFrame, mkF, argsToLocals, Value.category]; done) | rfl
set_option maxRecDepth 65536 in
set_option maxHeartbeats 40000000 in
theorem rmof1 (l : Launch) (Z : State) (a0 : Array Value) (hw : ∀ d ∈ tables_1, d.before a0 Z = true) (ws : List Jvm.Cond) (b : Addr) (k2 : ClassId) (C : String) (sp : Addr) (em : Addr) (h0 : Heap) (n0 : Nat) (O0 : Old Z n0 h0) (Ab : Arv Z h0 b k2 (.object "java/lang/Object") (1 : Int32) [(.ref sp)] .null) (Esp : Exa Z h0 sp C) (hcast : (Jvm.Cond.castable C "java/lang/Object").before a0 Z = true) (Sem : Sta Z Z.heap "java/util/ImmutableCollections" "EMPTY" "Ljava/lang/Object;" (.ref em)) :
    MetFree l (⟨"java/util/List", "of", "([Ljava/lang/Object;)Ljava/util/List;"⟩ : MethodName) (head1 (Jvm.Cond.code (⟨"java/util/List", "of", "([Ljava/lang/Object;)Ljava/util/List;"⟩ : MethodName) jdk_40_method_47_code 2 (some (.object "java/util/List")) :: ws) ({ frames := 5, cells := 1, slots := 2, locals := 62 } : Room)) (fun aa U => aa = #[(.ref b)] ∧ Z.Warmed39 U.vm ∧ U.heap = h0) (fun _ _ _ _ _ => True) (fun _ U o U' => ∃ v L, o = .returned v ∧ Q_rmof1 Z b k2 C sp em h0 n0 v U'.heap L ∧ FrameEnd U o U' L ({ frames := 5, cells := 1, slots := 2, locals := 62 } : Room).cells ({ frames := 5, cells := 1, slots := 2, locals := 62 } : Room).slots) := by
  refine MetFree.of_bodySF (plainFor_of_name pn12) hisR ?_
  intro p e s m args below meth c s₁ Bd hml0 hP hK
  obtain ⟨rfl, hZ, hh⟩ := hP
  have hx := Bd.exec
  have hby := Bd.bytes
  have hml : c.maxLocals = 2 := hml0
  have hown : s.vm.findClass "java/util/List" = some m.cls := findClass_of_methodNamed Bd.named
  have hnm := (name_of_methodNamed Bd.named Bd.method).1
  have X0 : Stand p l e ({ frames := 5, cells := 1, slots := 2, locals := 62 } : Room) s m #[(.ref b)] below meth c s₁ [] 0 0 := Stand.of_body Bd
  have e0 : s₁.heap = h0 := by rw [← hh, Bd.state]; rfl
  have N0 := Fr.nil n0
  have K0 : Keep h0 h0 [] := Keep.refl _ _
  have pre0 : ∀ tgt, Steps p.tables e below (s₁.setTop (mkF m 0 #[.val (.ref b), .unset] [])) tgt → Steps p.tables e below (s₁.setTop (entryFrame m #[(.ref b)] 2)) tgt := fun tgt kgo => castTop (ef_rmof1 m b) kgo
  obtain ⟨cl1, Ar1, q1, S1, M1, H1, G1⟩ := id Ab
  obtain ⟨T2, h2, X2, e2, E2, A2, D2, U2, st2⟩ := newO X0 hx hZ hown (ow206 hw) (ow207 hw) (ow208 hw) e0 (g := (mkF m 34 #[.val (.ref b), .unset] [])) rfl (hb hby d_jdk_40_method_47_code_34) (by decide) (by decide)
  obtain ⟨b2, g2⟩ : ∃ z, z = h0.size := ⟨_, rfl⟩
  rw [← g2] at A2 D2 U2 st2
  have gn2 : n0 ≤ b2 := Nat.le_trans (own_sz O0) (Nat.le_of_eq g2.symm)
  have sz2 : h0.size ≤ b2 := Nat.le_trans K0.1 (Nat.le_of_eq g2.symm)
  have neb_2 : b ≠ b2 := Nat.ne_of_lt (Nat.lt_of_lt_of_le Ab.lt (Nat.le_of_eq g2.symm))
  have nesp_2 : sp ≠ b2 := Nat.ne_of_lt (Nat.lt_of_lt_of_le Esp.lt (Nat.le_of_eq g2.symm))
  have Ol3 := O0.ext E2
  have K3 := K0.ext E2
  have Fe0_2 : Fld Z h2 b2 "java/util/ImmutableCollections$List12" "e0" "Ljava/lang/Object;" .null := D2 (Or.inr (ow219 hw)) (ty := (.object "java/lang/Object")) (by decide)
  have Fe1_2 : Fld Z h2 b2 "java/util/ImmutableCollections$List12" "e1" "Ljava/lang/Object;" .null := D2 (Or.inr (ow221 hw)) (ty := (.object "java/lang/Object")) (by decide)
  have f5 := (Ab.ext E2)
  obtain ⟨cl4, Ar4, q4, S4, M4, H4, G4⟩ := id f5
  have hin4 : ¬ ((0 : Int32) < 0 ∨ cl4.slots.size ≤ ((0 : Int32)).toNatClampNeg) := inb_of S4 ⟨by decide, by decide⟩
  have hat4 : cl4.slots[((0 : Int32)).toNatClampNeg]? = some (.ref sp) := H4.at hin4 rfl
  obtain ⟨_, _, ⟨T6, L6, k6, n6⟩, -, X6, ⟨Lc6, hQ6, l6, y6, z6⟩, st6⟩ := X2.specialBack hx (y := (⟨"java/util/ImmutableCollections$List12", "<init>", "(Ljava/lang/Object;)V"⟩ : MethodName)) rfl hown (mvT hZ (ow222 hw)) (mvT hZ (ow223 hw)) (mvT hZ (ow224 hw)) (by decide) (backOf (W := 1) (rml1 l Z a0 hw [] b2 sp em h2 n0 Ol3 A2 Fe0_2 Fe1_2 gn2 Sem) hZ (ow224 hw) (ow208 hw) (by decide) (by decide)) (g := (mkF m 41 #[.val (.ref b), .unset] [(.ref sp), (.ref b2), (.ref b2)])) rfl (by rw [hml]; rfl) (Steps.refl _) (a := b2) (argsL := [(.ref sp)]) (rest := [(.ref b2)]) (lenOf pd7 rfl) rfl (by show 2 * 0 + _ ≤ _; exact Nat.le_of_eq rfl) (hb hby d_jdk_40_method_47_code_41) (fun _ _ => ⟨rfl, e2, (by decide : 1 + 0 ≤ _), (by decide : 2 + 0 ≤ _)⟩)
  dsimp only [Pt.U, Pt.locs, Pt.cells, Pt.slots] at X6 l6 y6 z6 st6 hQ6
  subst l6 y6 z6
  obtain ⟨rfl, Nq6, kp6⟩ := hQ6
  have N7 := Fr.app N0 Nq6
  have Ol8 := Ol3.keep kp6 (allS gn2 all0)
  have K8 := K3.trans kp6 (allS (Or.inr sz2) all0)
  have f9 := (A2.keep kp6)
  obtain ⟨fs, hretL, hrun, hended, hW, hsame⟩ := X6.leave (v := some (.ref b2)) (fun h => by rw [Bd.returns] at h; cases h)
  refine ⟨_, _, pre0 _ ?_, hrun, hended, _, _, rfl, ?_, ⟨_, rfl⟩, hW, hsame.mono (by decide) (by decide)⟩
  · refine XS.aloadN X0.here hx rfl (hb hby d_jdk_40_method_47_code_0) rfl rfl ?_
    show Steps p.tables e below (s₁.setTop (mkF m 1 #[.val (.ref b), .unset] [(.ref b)])) _
    refine X0.arraylength hx (by rw [e0]; exact Ar1.1) (State.isArrayOf_alike hZ.alike Ar1.2.1) (g := (mkF m 1 #[.val (.ref b), .unset] [(.ref b)])) rfl rfl (hb hby d_jdk_40_method_47_code_1) _ ?_
    rw [len_of S1 M1]
    show Steps p.tables e below (s₁.setTop (mkF m 2 #[.val (.ref b), .unset] [(.int (1 : Int32))])) _
    refine XS.tswIn X0.here hx rfl (pc0 := 2) (pc' := 34) rfl (hb hby d_jdk_40_method_47_code_2) rfl (by decide) rfl (by decide) (by decide) ?_
    show Steps p.tables e below (s₁.setTop (mkF m 34 #[.val (.ref b), .unset] [])) _
    refine st2 _ ?_
    show Steps p.tables e below (T2.setTop (mkF m 37 #[.val (.ref b), .unset] [(.ref b2)])) _
    refine XS.dup X2.here hx rfl (hb hby d_jdk_40_method_47_code_37) rfl rfl ?_
    show Steps p.tables e below (T2.setTop (mkF m 38 #[.val (.ref b), .unset] [(.ref b2), (.ref b2)])) _
    refine XS.aloadN X2.here hx rfl (hb hby d_jdk_40_method_47_code_38) rfl rfl ?_
    show Steps p.tables e below (T2.setTop (mkF m 39 #[.val (.ref b), .unset] [(.ref b), (.ref b2), (.ref b2)])) _
    refine XS.iconst X2.here hx rfl (hb hby d_jdk_40_method_47_code_39) ?_
    show Steps p.tables e below (T2.setTop (mkF m 40 #[.val (.ref b), .unset] [(.int (0 : Int32)), (.ref b), (.ref b2), (.ref b2)])) _
    refine X2.aaload hx (j := (0 : Int32)) (v := (.ref sp)) (by rw [e2]; exact Ar4.1) (State.isArrayOf_alike hZ.alike Ar4.2.1) rfl Ar4.2.2 hin4 hat4 (g := (mkF m 40 #[.val (.ref b), .unset] [(.int (0 : Int32)), (.ref b), (.ref b2), (.ref b2)])) rfl rfl (hb hby d_jdk_40_method_47_code_40) _ ?_
    show Steps p.tables e below (T2.setTop (mkF m 41 #[.val (.ref b), .unset] [(.ref sp), (.ref b2), (.ref b2)])) _
    refine st6.trans ?_
    show Steps p.tables e below (T6.setTop (mkF m 44 #[.val (.ref b), .unset] [(.ref b2)])) _
    exact retOut X6 hx Bd.returns rfl (Or.inr (Or.inr (Or.inr (Or.inr ⟨rfl, rfl, rfl⟩)))) (hb hby d_jdk_40_method_47_code_44) hretL
  · show Q_rmof1 Z b k2 C sp em h0 n0 _ T6.heap _
    exact ⟨_, rfl, N7, K8, f9⟩
theorem d_jdk_40_method_47_code_45 : decode jdk_40_method_47_code 45 = .ok (.new 96, 3) := by decide +kernel
theorem d_jdk_40_method_47_code_48 : decode jdk_40_method_47_code 48 = .ok (.dup, 1) := by decide +kernel
theorem d_jdk_40_method_47_code_49 : decode jdk_40_method_47_code 49 = .ok (.aload_n 0, 1) := by decide +kernel
theorem d_jdk_40_method_47_code_50 : decode jdk_40_method_47_code 50 = .ok (.iconst 0, 1) := by decide +kernel
theorem d_jdk_40_method_47_code_51 : decode jdk_40_method_47_code 51 = .ok (.aaload, 1) := by decide +kernel
theorem d_jdk_40_method_47_code_52 : decode jdk_40_method_47_code 52 = .ok (.aload_n 0, 1) := by decide +kernel
theorem d_jdk_40_method_47_code_53 : decode jdk_40_method_47_code 53 = .ok (.iconst 1, 1) := by decide +kernel
theorem d_jdk_40_method_47_code_54 : decode jdk_40_method_47_code 54 = .ok (.aaload, 1) := by decide +kernel
theorem d_jdk_40_method_47_code_55 : decode jdk_40_method_47_code 55 = .ok (.invokespecial 100, 3) := by decide +kernel
theorem d_jdk_40_method_47_code_58 : decode jdk_40_method_47_code 58 = .ok (.areturn, 1) := by decide +kernel
def Q_rmof2 (Z : State) (b : Addr) (k2 : ClassId) (C : String) (sp : Addr) (h0 : Heap) (n0 : Nat) (v : Option Value) (h : Heap) (L : List Loc) : Prop := ∃ (r : Addr), v = some (.ref r) ∧ Fr n0 L ∧ Keep h0 h [] ∧ Exa Z h r "java/util/ImmutableCollections$List12"
theorem ef_rmof2 (m : MethodId) (b : Addr) : entryFrame m #[(.ref b)] 2 = mkF m 0 #[.val (.ref b), .unset] [] := by first | (simp [entryFrame, mkF, argsToLocals, Value.category]; done) | rfl
set_option maxRecDepth 65536 in
set_option maxHeartbeats 40000000 in
theorem rmof2 (l : Launch) (Z : State) (a0 : Array Value) (hw : ∀ d ∈ tables_1, d.before a0 Z = true) (ws : List Jvm.Cond) (b : Addr) (k2 : ClassId) (C : String) (sp : Addr) (h0 : Heap) (n0 : Nat) (O0 : Old Z n0 h0) (Ab : Arv Z h0 b k2 (.object "java/lang/Object") (2 : Int32) [(.ref sp), (.ref sp)] .null) (Esp : Exa Z h0 sp C) (hcast : (Jvm.Cond.castable C "java/lang/Object").before a0 Z = true) :
    MetFree l (⟨"java/util/List", "of", "([Ljava/lang/Object;)Ljava/util/List;"⟩ : MethodName) (head1 (Jvm.Cond.code (⟨"java/util/List", "of", "([Ljava/lang/Object;)Ljava/util/List;"⟩ : MethodName) jdk_40_method_47_code 2 (some (.object "java/util/List")) :: ws) ({ frames := 5, cells := 1, slots := 2, locals := 63 } : Room)) (fun aa U => aa = #[(.ref b)] ∧ Z.Warmed39 U.vm ∧ U.heap = h0) (fun _ _ _ _ _ => True) (fun _ U o U' => ∃ v L, o = .returned v ∧ Q_rmof2 Z b k2 C sp h0 n0 v U'.heap L ∧ FrameEnd U o U' L ({ frames := 5, cells := 1, slots := 2, locals := 63 } : Room).cells ({ frames := 5, cells := 1, slots := 2, locals := 63 } : Room).slots) := by
  refine MetFree.of_bodySF (plainFor_of_name pn12) hisR ?_
  intro p e s m args below meth c s₁ Bd hml0 hP hK
  obtain ⟨rfl, hZ, hh⟩ := hP
  have hx := Bd.exec
  have hby := Bd.bytes
  have hml : c.maxLocals = 2 := hml0
  have hown : s.vm.findClass "java/util/List" = some m.cls := findClass_of_methodNamed Bd.named
  have hnm := (name_of_methodNamed Bd.named Bd.method).1
  have X0 : Stand p l e ({ frames := 5, cells := 1, slots := 2, locals := 63 } : Room) s m #[(.ref b)] below meth c s₁ [] 0 0 := Stand.of_body Bd
  have e0 : s₁.heap = h0 := by rw [← hh, Bd.state]; rfl
  have N0 := Fr.nil n0
  have K0 : Keep h0 h0 [] := Keep.refl _ _
  have pre0 : ∀ tgt, Steps p.tables e below (s₁.setTop (mkF m 0 #[.val (.ref b), .unset] [])) tgt → Steps p.tables e below (s₁.setTop (entryFrame m #[(.ref b)] 2)) tgt := fun tgt kgo => castTop (ef_rmof2 m b) kgo
  obtain ⟨cl1, Ar1, q1, S1, M1, H1, G1⟩ := id Ab
  obtain ⟨T2, h2, X2, e2, E2, A2, D2, U2, st2⟩ := newO X0 hx hZ hown (ow206 hw) (ow207 hw) (ow208 hw) e0 (g := (mkF m 45 #[.val (.ref b), .unset] [])) rfl (hb hby d_jdk_40_method_47_code_45) (by decide) (by decide)
  obtain ⟨b2, g2⟩ : ∃ z, z = h0.size := ⟨_, rfl⟩
  rw [← g2] at A2 D2 U2 st2
  have gn2 : n0 ≤ b2 := Nat.le_trans (own_sz O0) (Nat.le_of_eq g2.symm)
  have sz2 : h0.size ≤ b2 := Nat.le_trans K0.1 (Nat.le_of_eq g2.symm)
  have neb_2 : b ≠ b2 := Nat.ne_of_lt (Nat.lt_of_lt_of_le Ab.lt (Nat.le_of_eq g2.symm))
  have nesp_2 : sp ≠ b2 := Nat.ne_of_lt (Nat.lt_of_lt_of_le Esp.lt (Nat.le_of_eq g2.symm))
  have Ol3 := O0.ext E2
  have K3 := K0.ext E2
  have Fe0_2 : Fld Z h2 b2 "java/util/ImmutableCollections$List12" "e0" "Ljava/lang/Object;" .null := D2 (Or.inr (ow219 hw)) (ty := (.object "java/lang/Object")) (by decide)
  have Fe1_2 : Fld Z h2 b2 "java/util/ImmutableCollections$List12" "e1" "Ljava/lang/Object;" .null := D2 (Or.inr (ow221 hw)) (ty := (.object "java/lang/Object")) (by decide)
  have f5 := (Ab.ext E2)
  obtain ⟨cl4, Ar4, q4, S4, M4, H4, G4⟩ := id f5
  have hin4 : ¬ ((0 : Int32) < 0 ∨ cl4.slots.size ≤ ((0 : Int32)).toNatClampNeg) := inb_of S4 ⟨by decide, by decide⟩
  have hat4 : cl4.slots[((0 : Int32)).toNatClampNeg]? = some (.ref sp) := H4.at hin4 rfl
  obtain ⟨cl6, Ar6, q6, S6, M6, H6, G6⟩ := id f5
  have hin6 : ¬ ((1 : Int32) < 0 ∨ cl6.slots.size ≤ ((1 : Int32)).toNatClampNeg) := inb_of S6 ⟨by decide, by decide⟩
  have hat6 : cl6.slots[((1 : Int32)).toNatClampNeg]? = some (.ref sp) := H6.at hin6 rfl
  obtain ⟨_, _, ⟨T7, L7, k7, n7⟩, -, X7, ⟨Lc7, hQ7, l7, y7, z7⟩, st7⟩ := X2.specialBack hx (y := (⟨"java/util/ImmutableCollections$List12", "<init>", "(Ljava/lang/Object;Ljava/lang/Object;)V"⟩ : MethodName)) rfl hown (mvT hZ (ow209 hw)) (mvT hZ (ow210 hw)) (mvT hZ (ow212 hw)) (by decide) (backOf (W := 1) (rml2 l Z a0 hw [] b2 sp  h2 n0 Ol3 A2 Fe0_2 Fe1_2 gn2) hZ (ow212 hw) (ow208 hw) (by decide) (by decide)) (g := (mkF m 55 #[.val (.ref b), .unset] [(.ref sp), (.ref sp), (.ref b2), (.ref b2)])) rfl (by rw [hml]; rfl) (Steps.refl _) (a := b2) (argsL := [(.ref sp), (.ref sp)]) (rest := [(.ref b2)]) (lenOf pd8 rfl) rfl (by show 2 * 0 + _ ≤ _; exact Nat.le_of_eq rfl) (hb hby d_jdk_40_method_47_code_55) (fun _ _ => ⟨rfl, e2, (by decide : 1 + 0 ≤ _), (by decide : 2 + 0 ≤ _)⟩)
  dsimp only [Pt.U, Pt.locs, Pt.cells, Pt.slots] at X7 l7 y7 z7 st7 hQ7
  subst l7 y7 z7
  obtain ⟨rfl, Nq7, kp7⟩ := hQ7
  have N8 := Fr.app N0 Nq7
  have Ol9 := Ol3.keep kp7 (allS gn2 all0)
  have K9 := K3.trans kp7 (allS (Or.inr sz2) all0)
  have f10 := (A2.keep kp7)
  obtain ⟨fs, hretL, hrun, hended, hW, hsame⟩ := X7.leave (v := some (.ref b2)) (fun h => by rw [Bd.returns] at h; cases h)
  refine ⟨_, _, pre0 _ ?_, hrun, hended, _, _, rfl, ?_, ⟨_, rfl⟩, hW, hsame.mono (by decide) (by decide)⟩
  · refine XS.aloadN X0.here hx rfl (hb hby d_jdk_40_method_47_code_0) rfl rfl ?_
    show Steps p.tables e below (s₁.setTop (mkF m 1 #[.val (.ref b), .unset] [(.ref b)])) _
    refine X0.arraylength hx (by rw [e0]; exact Ar1.1) (State.isArrayOf_alike hZ.alike Ar1.2.1) (g := (mkF m 1 #[.val (.ref b), .unset] [(.ref b)])) rfl rfl (hb hby d_jdk_40_method_47_code_1) _ ?_
    rw [len_of S1 M1]
    show Steps p.tables e below (s₁.setTop (mkF m 2 #[.val (.ref b), .unset] [(.int (2 : Int32))])) _
    refine XS.tswIn X0.here hx rfl (pc0 := 2) (pc' := 45) rfl (hb hby d_jdk_40_method_47_code_2) rfl (by decide) rfl (by decide) (by decide) ?_
    show Steps p.tables e below (s₁.setTop (mkF m 45 #[.val (.ref b), .unset] [])) _
    refine st2 _ ?_
    show Steps p.tables e below (T2.setTop (mkF m 48 #[.val (.ref b), .unset] [(.ref b2)])) _
    refine XS.dup X2.here hx rfl (hb hby d_jdk_40_method_47_code_48) rfl rfl ?_
    show Steps p.tables e below (T2.setTop (mkF m 49 #[.val (.ref b), .unset] [(.ref b2), (.ref b2)])) _
    refine XS.aloadN X2.here hx rfl (hb hby d_jdk_40_method_47_code_49) rfl rfl ?_
    show Steps p.tables e below (T2.setTop (mkF m 50 #[.val (.ref b), .unset] [(.ref b), (.ref b2), (.ref b2)])) _
    refine XS.iconst X2.here hx rfl (hb hby d_jdk_40_method_47_code_50) ?_
    show Steps p.tables e below (T2.setTop (mkF m 51 #[.val (.ref b), .unset] [(.int (0 : Int32)), (.ref b), (.ref b2), (.ref b2)])) _
    refine X2.aaload hx (j := (0 : Int32)) (v := (.ref sp)) (by rw [e2]; exact Ar4.1) (State.isArrayOf_alike hZ.alike Ar4.2.1) rfl Ar4.2.2 hin4 hat4 (g := (mkF m 51 #[.val (.ref b), .unset] [(.int (0 : Int32)), (.ref b), (.ref b2), (.ref b2)])) rfl rfl (hb hby d_jdk_40_method_47_code_51) _ ?_
    show Steps p.tables e below (T2.setTop (mkF m 52 #[.val (.ref b), .unset] [(.ref sp), (.ref b2), (.ref b2)])) _
    refine XS.aloadN X2.here hx rfl (hb hby d_jdk_40_method_47_code_52) rfl rfl ?_
    show Steps p.tables e below (T2.setTop (mkF m 53 #[.val (.ref b), .unset] [(.ref b), (.ref sp), (.ref b2), (.ref b2)])) _
    refine XS.iconst X2.here hx rfl (hb hby d_jdk_40_method_47_code_53) ?_
    show Steps p.tables e below (T2.setTop (mkF m 54 #[.val (.ref b), .unset] [(.int (1 : Int32)), (.ref b), (.ref sp), (.ref b2), (.ref b2)])) _
    refine X2.aaload hx (j := (1 : Int32)) (v := (.ref sp)) (by rw [e2]; exact Ar6.1) (State.isArrayOf_alike hZ.alike Ar6.2.1) rfl Ar6.2.2 hin6 hat6 (g := (mkF m 54 #[.val (.ref b), .unset] [(.int (1 : Int32)), (.ref b), (.ref sp), (.ref b2), (.ref b2)])) rfl rfl (hb hby d_jdk_40_method_47_code_54) _ ?_
    show Steps p.tables e below (T2.setTop (mkF m 55 #[.val (.ref b), .unset] [(.ref sp), (.ref sp), (.ref b2), (.ref b2)])) _
    refine st7.trans ?_
    show Steps p.tables e below (T7.setTop (mkF m 58 #[.val (.ref b), .unset] [(.ref b2)])) _
    exact retOut X7 hx Bd.returns rfl (Or.inr (Or.inr (Or.inr (Or.inr ⟨rfl, rfl, rfl⟩)))) (hb hby d_jdk_40_method_47_code_58) hretL
  · show Q_rmof2 Z b k2 C sp h0 n0 _ T7.heap _
    exact ⟨_, rfl, N8, K9, f10⟩
theorem d_jdk_40_method_47_code_59 : decode jdk_40_method_47_code 59 = .ok (.aload_n 0, 1) := by decide +kernel
theorem d_jdk_40_method_47_code_60 : decode jdk_40_method_47_code 60 = .ok (.invokestatic 109, 3) := by decide +kernel
theorem d_jdk_40_method_47_code_63 : decode jdk_40_method_47_code 63 = .ok (.areturn, 1) := by decide +kernel
def Q_rmof3 (Z : State) (b : Addr) (k2 : ClassId) (C : String) (sp : Addr) (h0 : Heap) (n0 : Nat) (v : Option Value) (h : Heap) (L : List Loc) : Prop := ∃ (r t : Addr) (kt : ClassId), v = some (.ref r) ∧ Fr n0 L ∧ Keep h0 h [] ∧ Exa Z h r "java/util/ImmutableCollections$ListN" ∧ Fld Z h r "java/util/ImmutableCollections$ListN" "elements" "[Ljava/lang/Object;" (.ref t) ∧ Arv Z h t kt (.object "java/lang/Object") (3 : Int32) [(.ref sp), (.ref sp), (.ref sp)] .null
theorem ef_rmof3 (m : MethodId) (b : Addr) : entryFrame m #[(.ref b)] 2 = mkF m 0 #[.val (.ref b), .unset] [] := by first | (simp [entryFrame, mkF, argsToLocals, Value.category]; done) | rfl
set_option maxRecDepth 65536 in
set_option maxHeartbeats 40000000 in
theorem rmof3 (l : Launch) (Z : State) (a0 : Array Value) (hw : ∀ d ∈ tables_1, d.before a0 Z = true) (ws : List Jvm.Cond) (b : Addr) (k2 : ClassId) (C : String) (sp : Addr) (h0 : Heap) (n0 : Nat) (O0 : Old Z n0 h0) (Ab : Arv Z h0 b k2 (.object "java/lang/Object") (3 : Int32) [(.ref sp), (.ref sp), (.ref sp)] .null) (Esp : Exa Z h0 sp C) (hcast : (Jvm.Cond.castable C "java/lang/Object").before a0 Z = true) :
    MetFree l (⟨"java/util/List", "of", "([Ljava/lang/Object;)Ljava/util/List;"⟩ : MethodName) (head1 (Jvm.Cond.code (⟨"java/util/List", "of", "([Ljava/lang/Object;)Ljava/util/List;"⟩ : MethodName) jdk_40_method_47_code 2 (some (.object "java/util/List")) :: ws) ({ frames := 6, cells := 2, slots := 5, locals := 77 } : Room)) (fun aa U => aa = #[(.ref b)] ∧ Z.Warmed39 U.vm ∧ U.heap = h0) (fun _ _ _ _ _ => True) (fun _ U o U' => ∃ v L, o = .returned v ∧ Q_rmof3 Z b k2 C sp h0 n0 v U'.heap L ∧ FrameEnd U o U' L ({ frames := 6, cells := 2, slots := 5, locals := 77 } : Room).cells ({ frames := 6, cells := 2, slots := 5, locals := 77 } : Room).slots) := by
  refine MetFree.of_bodySF (plainFor_of_name pn12) hisR ?_
  intro p e s m args below meth c s₁ Bd hml0 hP hK
  obtain ⟨rfl, hZ, hh⟩ := hP
  have hx := Bd.exec
  have hby := Bd.bytes
  have hml : c.maxLocals = 2 := hml0
  have hown : s.vm.findClass "java/util/List" = some m.cls := findClass_of_methodNamed Bd.named
  have hnm := (name_of_methodNamed Bd.named Bd.method).1
  have X0 : Stand p l e ({ frames := 6, cells := 2, slots := 5, locals := 77 } : Room) s m #[(.ref b)] below meth c s₁ [] 0 0 := Stand.of_body Bd
  have e0 : s₁.heap = h0 := by rw [← hh, Bd.state]; rfl
  have N0 := Fr.nil n0
  have K0 : Keep h0 h0 [] := Keep.refl _ _
  have pre0 : ∀ tgt, Steps p.tables e below (s₁.setTop (mkF m 0 #[.val (.ref b), .unset] [])) tgt → Steps p.tables e below (s₁.setTop (entryFrame m #[(.ref b)] 2)) tgt := fun tgt kgo => castTop (ef_rmof3 m b) kgo
  obtain ⟨cl1, Ar1, q1, S1, M1, H1, G1⟩ := id Ab
  obtain ⟨_, _, ⟨T2, L2, k2, n2⟩, -, X2, ⟨Lc2, hQ2, l2, y2, z2⟩, st2⟩ := Jvm.LawKit.callS X0 hx (y := (⟨"java/util/ImmutableCollections", "listFromArray", "([Ljava/lang/Object;)Ljava/util/List;"⟩ : MethodName)) hown (mvT hZ (ow155 hw)) (mvT hZ (ow156 hw)) (mvT hZ (ow101 hw)) (mvT hZ (ow157 hw)) (by decide) (backOf (W := 0) (rmlfa l Z a0 hw [] b k2 C sp h0 n0 O0 Ab Esp hcast) hZ (ow157 hw) (ow101 hw) (by decide) (by decide)) (g := (mkF m 60 #[.val (.ref b), .unset] [(.ref b)])) rfl (by rw [hml]; rfl) (argsL := [(.ref b)]) (rest := []) (lenOf pd9 rfl) rfl (by show 2 * 0 + _ ≤ _; exact Nat.le_of_eq rfl) (hb hby d_jdk_40_method_47_code_60) (fun _ _ => ⟨rfl, e0, (by decide : 0 + 2 ≤ _), (by decide : 0 + 5 ≤ _)⟩)
  dsimp only [Pt.U, Pt.locs, Pt.cells, Pt.slots] at X2 l2 y2 z2 st2 hQ2
  subst l2 y2 z2
  obtain ⟨r2, t2, kt2, rfl, Nq2, kp2, Er2, Fr2, At2⟩ := hQ2
  have N3 := Fr.app N0 Nq2
  have Ol4 := O0.keep kp2 all0
  have K4 := K0.trans kp2 all0
  obtain ⟨fs, hretL, hrun, hended, hW, hsame⟩ := X2.leave (v := some (.ref r2)) (fun h => by rw [Bd.returns] at h; cases h)
  refine ⟨_, _, pre0 _ ?_, hrun, hended, _, _, rfl, ?_, ⟨_, rfl⟩, hW, hsame.mono (by decide) (by decide)⟩
  · refine XS.aloadN X0.here hx rfl (hb hby d_jdk_40_method_47_code_0) rfl rfl ?_
    show Steps p.tables e below (s₁.setTop (mkF m 1 #[.val (.ref b), .unset] [(.ref b)])) _
    refine X0.arraylength hx (by rw [e0]; exact Ar1.1) (State.isArrayOf_alike hZ.alike Ar1.2.1) (g := (mkF m 1 #[.val (.ref b), .unset] [(.ref b)])) rfl rfl (hb hby d_jdk_40_method_47_code_1) _ ?_
    rw [len_of S1 M1]
    show Steps p.tables e below (s₁.setTop (mkF m 2 #[.val (.ref b), .unset] [(.int (3 : Int32))])) _
    refine XS.tswOut X0.here hx rfl (pc0 := 2) (pc' := 59) rfl (hb hby d_jdk_40_method_47_code_2) rfl (by decide) (by decide) (by decide) ?_
    show Steps p.tables e below (s₁.setTop (mkF m 59 #[.val (.ref b), .unset] [])) _
    refine XS.aloadN X0.here hx rfl (hb hby d_jdk_40_method_47_code_59) rfl rfl ?_
    show Steps p.tables e below (s₁.setTop (mkF m 60 #[.val (.ref b), .unset] [(.ref b)])) _
    refine st2 _ ?_
    show Steps p.tables e below (T2.setTop (mkF m 63 #[.val (.ref b), .unset] [(.ref r2)])) _
    exact retOut X2 hx Bd.returns rfl (Or.inr (Or.inr (Or.inr (Or.inr ⟨rfl, rfl, rfl⟩)))) (hb hby d_jdk_40_method_47_code_63) hretL
  · show Q_rmof3 Z b k2 C sp h0 n0 _ T2.heap _
    exact ⟨_, _, _, rfl, N3, K4, Er2, Fr2, At2⟩
theorem d_jdk_65_method_120_code_0 : decode jdk_65_method_120_code 0 = .ok (.aload_n 2, 1) := by decide +kernel
theorem d_jdk_65_method_120_code_1 : decode jdk_65_method_120_code 1 = .ok (.ldc 110, 2) := by decide +kernel
theorem d_jdk_65_method_120_code_3 : decode jdk_65_method_120_code 3 = .ok (.if_acmp .ne 10, 3) := by decide +kernel
theorem d_jdk_65_method_120_code_6 : decode jdk_65_method_120_code 6 = .ok (.iload_n 1, 1) := by decide +kernel
theorem d_jdk_65_method_120_code_7 : decode jdk_65_method_120_code 7 = .ok (.anewarray 2, 3) := by decide +kernel
theorem d_jdk_65_method_120_code_10 : decode jdk_65_method_120_code 10 = .ok (.goto 14, 3) := by decide +kernel
theorem d_jdk_65_method_120_code_24 : decode jdk_65_method_120_code 24 = .ok (.astore_n 3, 1) := by decide +kernel
theorem d_jdk_65_method_120_code_25 : decode jdk_65_method_120_code 25 = .ok (.aload_n 0, 1) := by decide +kernel
theorem d_jdk_65_method_120_code_26 : decode jdk_65_method_120_code 26 = .ok (.iconst 0, 1) := by decide +kernel
theorem d_jdk_65_method_120_code_27 : decode jdk_65_method_120_code 27 = .ok (.aload_n 3, 1) := by decide +kernel
theorem d_jdk_65_method_120_code_28 : decode jdk_65_method_120_code 28 = .ok (.iconst 0, 1) := by decide +kernel
theorem d_jdk_65_method_120_code_29 : decode jdk_65_method_120_code 29 = .ok (.aload_n 0, 1) := by decide +kernel
theorem d_jdk_65_method_120_code_30 : decode jdk_65_method_120_code 30 = .ok (.arraylength, 1) := by decide +kernel
theorem d_jdk_65_method_120_code_31 : decode jdk_65_method_120_code 31 = .ok (.iload_n 1, 1) := by decide +kernel
theorem d_jdk_65_method_120_code_32 : decode jdk_65_method_120_code 32 = .ok (.invokestatic 304, 3) := by decide +kernel
theorem d_jdk_65_method_120_code_35 : decode jdk_65_method_120_code 35 = .ok (.invokestatic 150, 3) := by decide +kernel
theorem d_jdk_65_method_120_code_38 : decode jdk_65_method_120_code 38 = .ok (.aload_n 3, 1) := by decide +kernel
theorem d_jdk_65_method_120_code_39 : decode jdk_65_method_120_code 39 = .ok (.areturn, 1) := by decide +kernel
def Q_rmca1 (Z : State) (b : Addr) (mr : Addr) (kk : ClassId) (C : String) (sp : Addr) (h0 : Heap) (n0 : Nat) (v : Option Value) (h : Heap) (L : List Loc) : Prop := ∃ (b2 : Addr) (k2 : ClassId), v = some (.ref b2) ∧ Fr n0 L ∧ Keep h0 h [] ∧ Arv Z h b2 k2 (.object "java/lang/Object") (1 : Int32) [(.ref sp)] .null
theorem ef_rmca1 (m : MethodId) (b : Addr) (mr : Addr) : entryFrame m #[(.ref b), (.int (1 : Int32)), (.ref mr)] 4 = mkF m 0 #[.val (.ref b), .val (.int (1 : Int32)), .val (.ref mr), .unset] [] := by first | (simp [entryFrame, mkF, argsToLocals, Value.category]; done) | rfl
set_option maxRecDepth 65536 in
set_option maxHeartbeats 40000000 in
theorem rmca1 (l : Launch) (Z : State) (a0 : Array Value) (hw : ∀ d ∈ tables_1, d.before a0 Z = true) (ws : List Jvm.Cond) (b : Addr) (mr : Addr) (kk : ClassId) (C : String) (sp : Addr) (h0 : Heap) (n0 : Nat) (O0 : Old Z n0 h0) (Ab : Arv Z h0 b kk (.object "java/lang/Object") (10 : Int32) [(.ref sp), .null, .null, .null, .null, .null, .null, .null, .null, .null] .null) (hM : MM Z "[Ljava/lang/Object;" mr) (Esp : Exa Z h0 sp C) (hcast : (Jvm.Cond.castable C "java/lang/Object").before a0 Z = true) :
    MetFree l (⟨"java/util/Arrays", "copyOf", "([Ljava/lang/Object;ILjava/lang/Class;)[Ljava/lang/Object;"⟩ : MethodName) (head1 (Jvm.Cond.code (⟨"java/util/Arrays", "copyOf", "([Ljava/lang/Object;ILjava/lang/Class;)[Ljava/lang/Object;"⟩ : MethodName) jdk_65_method_120_code 4 (some (.array (.object "java/lang/Object"))) :: ws) ({ frames := 1, cells := 1, slots := 1, locals := 60 } : Room)) (fun aa U => aa = #[(.ref b), (.int (1 : Int32)), (.ref mr)] ∧ Z.Warmed39 U.vm ∧ U.heap = h0) (fun _ _ _ _ _ => True) (fun _ U o U' => ∃ v L, o = .returned v ∧ Q_rmca1 Z b mr kk C sp h0 n0 v U'.heap L ∧ FrameEnd U o U' L ({ frames := 1, cells := 1, slots := 1, locals := 60 } : Room).cells ({ frames := 1, cells := 1, slots := 1, locals := 60 } : Room).slots) := by
  refine MetFree.of_bodySF (plainFor_of_name pn13) hisR ?_
  intro p e s m args below meth c s₁ Bd hml0 hP hK
  obtain ⟨rfl, hZ, hh⟩ := hP
  have hx := Bd.exec
  have hby := Bd.bytes
  have hml : c.maxLocals = 4 := hml0
  have hown : s.vm.findClass "java/util/Arrays" = some m.cls := findClass_of_methodNamed Bd.named
  have hnm := (name_of_methodNamed Bd.named Bd.method).1
  have X0 : Stand p l e ({ frames := 1, cells := 1, slots := 1, locals := 60 } : Room) s m #[(.ref b), (.int (1 : Int32)), (.ref mr)] below meth c s₁ [] 0 0 := Stand.of_body Bd
  have e0 : s₁.heap = h0 := by rw [← hh, Bd.state]; rfl
  have N0 := Fr.nil n0
  have K0 : Keep h0 h0 [] := Keep.refl _ _
  have pre0 : ∀ tgt, Steps p.tables e below (s₁.setTop (mkF m 0 #[.val (.ref b), .val (.int (1 : Int32)), .val (.ref mr), .unset] [])) tgt → Steps p.tables e below (s₁.setTop (entryFrame m #[(.ref b), (.int (1 : Int32)), (.ref mr)] 4)) tgt := fun tgt kgo => castTop (ef_rmca1 m b mr) kgo
  obtain ⟨vm1, X1, st1⟩ := X0.ldcMirror hx hown (mvT hZ (ow143 hw)) (own_mir hZ hM) (g := (mkF m 1 #[.val (.ref b), .val (.int (1 : Int32)), .val (.ref mr), .unset] [(.ref mr)])) rfl (hb hby d_jdk_65_method_120_code_1)
  have e1 : (s₁.setVm vm1).heap = h0 := e0
  obtain ⟨T2, h2, k2, X2, e2, E2, A2, Ex2, Ov2, st2⟩ := newRE X1 hx hZ hown (ow144 hw) (ow86 hw) e1 (g := (mkF m 7 #[.val (.ref b), .val (.int (1 : Int32)), .val (.ref mr), .unset] [(.int (1 : Int32))])) rfl (hb hby d_jdk_65_method_120_code_7) rfl (by decide) (cap := 1) (by decide) (by decide) (by decide) (by decide) (ad := "[Ljava/lang/Object;") rfl
  obtain ⟨b2, g2⟩ : ∃ z, z = h0.size := ⟨_, rfl⟩
  rw [← g2] at A2 st2 Ex2
  have V2 : Arv Z h2 b2 k2 (.object "java/lang/Object") (1 : Int32) [.null] .null := (Arv.new A2 (by decide)).pad (pad_rep [] .null 1)
  have gn2 : n0 ≤ b2 := Nat.le_trans (own_sz O0) (Nat.le_of_eq g2.symm)
  have sz2 : h0.size ≤ b2 := Nat.le_trans K0.1 (Nat.le_of_eq g2.symm)
  have neb_2 : b ≠ b2 := Nat.ne_of_lt (Nat.lt_of_lt_of_le Ab.lt (Nat.le_of_eq g2.symm))
  have nesp_2 : sp ≠ b2 := Nat.ne_of_lt (Nat.lt_of_lt_of_le Esp.lt (Nat.le_of_eq g2.symm))
  have Ol3 := O0.ext E2
  have K3 := K0.ext E2
  have f4 := (Ab.ext E2)
  obtain ⟨cl5, Ar5, q5, S5, M5, H5, G5⟩ := id f4
  obtain ⟨_, _, ⟨T6, L6, k6, n6⟩, -, X6, ⟨Lc6, hQ6, l6, y6, z6⟩, st6⟩ := Jvm.LawKit.callS X2 hx (y := (⟨"java/lang/Math", "min", "(II)I"⟩ : MethodName)) hown (mvT hZ (ow145 hw)) (mvT hZ (ow146 hw)) (mvT hZ (ow83 hw)) (mvT hZ (ow147 hw)) (by decide) (backOf (W := 4) (rmmin l Z a0 hw [] (10 : Int32) (1 : Int32)  h2 n0 Ol3 ) hZ (ow147 hw) (ow83 hw) (by decide) (by decide)) (g := (mkF m 32 #[.val (.ref b), .val (.int (1 : Int32)), .val (.ref mr), .val (.ref b2)] [(.int (1 : Int32)), (.int (10 : Int32)), (.int (0 : Int32)), (.ref b2), (.int (0 : Int32)), (.ref b)])) rfl (by rw [hml]; rfl) (argsL := [(.int (10 : Int32)), (.int (1 : Int32))]) (rest := [(.int (0 : Int32)), (.ref b2), (.int (0 : Int32)), (.ref b)]) (lenOf pd1 rfl) rfl (by show 2 * 0 + _ ≤ _; exact Nat.le_of_eq rfl) (hb hby d_jdk_65_method_120_code_32) (fun _ _ => ⟨rfl, e2, (by decide : 1 + 0 ≤ _), (by decide : 1 + 0 ≤ _)⟩)
  dsimp only [Pt.U, Pt.locs, Pt.cells, Pt.slots] at X6 l6 y6 z6 st6 hQ6
  subst l6 y6 z6
  obtain ⟨rfl, Nq6, eq6⟩ := hQ6
  have N7 := Fr.app N0 Nq6
  obtain ⟨cl8, Ar8, q8, -, -, -, -⟩ := id V2
  have f9 := (Esp.ext E2)
  obtain ⟨T10, h10, lo10, X10, e10, N10, kp10, V10, st10⟩ := cpA X6 hx hZ hown (ow148 hw) (ow151 hw) (ow149 hw) (ow150 hw) eq6 f4 V2 (Or.inr ⟨rfl, rfl, ⟨(Sto.ofV Ar8 q8 Ov2 (Ins.of_exa f9 hcast)), trivial⟩⟩) (us := [(.ref sp)]) (by decide) (by decide) (by decide) (by decide) (by decide) rfl (by decide) N7 gn2 (g := (mkF m 35 #[.val (.ref b), .val (.int (1 : Int32)), .val (.ref mr), .val (.ref b2)] [(.int (1 : Int32)), (.int (0 : Int32)), (.ref b2), (.int (0 : Int32)), (.ref b)])) rfl (by rw [hml]; rfl) rfl (hb hby d_jdk_65_method_120_code_35) (by decide) (W := 0) (by show 2 * 0 + _ ≤ _; exact Nat.le_of_eq rfl) (by decide)
  have Ol11 := Ol3.keep kp10 (allS gn2 all0)
  have K11 := K3.trans kp10 (allS (Or.inr sz2) all0)
  have Vc10 : Arv Z h10 b2 k2 (.object "java/lang/Object") (1 : Int32) [(.ref sp)] .null := V10
  obtain ⟨fs, hretL, hrun, hended, hW, hsame⟩ := X10.leave (v := some (.ref b2)) (fun h => by rw [Bd.returns] at h; cases h)
  refine ⟨_, _, pre0 _ ?_, hrun, hended, _, _, rfl, ?_, ⟨_, rfl⟩, hW, hsame.mono (by decide) (by decide)⟩
  · refine XS.aloadN X0.here hx rfl (hb hby d_jdk_65_method_120_code_0) rfl rfl ?_
    show Steps p.tables e below (s₁.setTop (mkF m 1 #[.val (.ref b), .val (.int (1 : Int32)), .val (.ref mr), .unset] [(.ref mr)])) _
    refine st1 _ ?_
    show Steps p.tables e below ((s₁.setVm vm1).setTop (mkF m 3 #[.val (.ref b), .val (.int (1 : Int32)), .val (.ref mr), .unset] [(.ref mr), (.ref mr)])) _
    refine Jvm.RoadKit.acmp (g := (mkF m 3 #[.val (.ref b), .val (.int (1 : Int32)), .val (.ref mr), .unset] [(.ref mr), (.ref mr)])) X1 hx rfl rfl rfl (pc0 := 3) (pc' := 6) (same := true) rfl (hb hby d_jdk_65_method_120_code_3) rfl (decide_eq_true (congrArg Value.ref rfl)) (by decide) (by decide) ?_
    show Steps p.tables e below ((s₁.setVm vm1).setTop (mkF m 6 #[.val (.ref b), .val (.int (1 : Int32)), .val (.ref mr), .unset] [])) _
    refine XS.iloadN X1.here hx rfl (hb hby d_jdk_65_method_120_code_6) rfl ?_
    show Steps p.tables e below ((s₁.setVm vm1).setTop (mkF m 7 #[.val (.ref b), .val (.int (1 : Int32)), .val (.ref mr), .unset] [(.int (1 : Int32))])) _
    refine st2 _ ?_
    show Steps p.tables e below (T2.setTop (mkF m 10 #[.val (.ref b), .val (.int (1 : Int32)), .val (.ref mr), .unset] [(.ref b2)])) _
    refine XS.goto X2.here hx rfl (pc0 := 10) (pc' := 24) rfl (hb hby d_jdk_65_method_120_code_10) (by decide) (by decide) ?_
    show Steps p.tables e below (T2.setTop (mkF m 24 #[.val (.ref b), .val (.int (1 : Int32)), .val (.ref mr), .unset] [(.ref b2)])) _
    refine XS.astoreN X2.here hx rfl (hb hby d_jdk_65_method_120_code_24) rfl rfl (l' := #[.val (.ref b), .val (.int (1 : Int32)), .val (.ref mr), .val (.ref b2)]) rfl ?_
    show Steps p.tables e below (T2.setTop (mkF m 25 #[.val (.ref b), .val (.int (1 : Int32)), .val (.ref mr), .val (.ref b2)] [])) _
    refine XS.aloadN X2.here hx rfl (hb hby d_jdk_65_method_120_code_25) rfl rfl ?_
    show Steps p.tables e below (T2.setTop (mkF m 26 #[.val (.ref b), .val (.int (1 : Int32)), .val (.ref mr), .val (.ref b2)] [(.ref b)])) _
    refine XS.iconst X2.here hx rfl (hb hby d_jdk_65_method_120_code_26) ?_
    show Steps p.tables e below (T2.setTop (mkF m 27 #[.val (.ref b), .val (.int (1 : Int32)), .val (.ref mr), .val (.ref b2)] [(.int (0 : Int32)), (.ref b)])) _
    refine XS.aloadN X2.here hx rfl (hb hby d_jdk_65_method_120_code_27) rfl rfl ?_
    show Steps p.tables e below (T2.setTop (mkF m 28 #[.val (.ref b), .val (.int (1 : Int32)), .val (.ref mr), .val (.ref b2)] [(.ref b2), (.int (0 : Int32)), (.ref b)])) _
    refine XS.iconst X2.here hx rfl (hb hby d_jdk_65_method_120_code_28) ?_
    show Steps p.tables e below (T2.setTop (mkF m 29 #[.val (.ref b), .val (.int (1 : Int32)), .val (.ref mr), .val (.ref b2)] [(.int (0 : Int32)), (.ref b2), (.int (0 : Int32)), (.ref b)])) _
    refine XS.aloadN X2.here hx rfl (hb hby d_jdk_65_method_120_code_29) rfl rfl ?_
    show Steps p.tables e below (T2.setTop (mkF m 30 #[.val (.ref b), .val (.int (1 : Int32)), .val (.ref mr), .val (.ref b2)] [(.ref b), (.int (0 : Int32)), (.ref b2), (.int (0 : Int32)), (.ref b)])) _
    refine X2.arraylength hx (by rw [e2]; exact Ar5.1) (State.isArrayOf_alike hZ.alike Ar5.2.1) (g := (mkF m 30 #[.val (.ref b), .val (.int (1 : Int32)), .val (.ref mr), .val (.ref b2)] [(.ref b), (.int (0 : Int32)), (.ref b2), (.int (0 : Int32)), (.ref b)])) rfl rfl (hb hby d_jdk_65_method_120_code_30) _ ?_
    rw [len_of S5 M5]
    show Steps p.tables e below (T2.setTop (mkF m 31 #[.val (.ref b), .val (.int (1 : Int32)), .val (.ref mr), .val (.ref b2)] [(.int (10 : Int32)), (.int (0 : Int32)), (.ref b2), (.int (0 : Int32)), (.ref b)])) _
    refine XS.iloadN X2.here hx rfl (hb hby d_jdk_65_method_120_code_31) rfl ?_
    show Steps p.tables e below (T2.setTop (mkF m 32 #[.val (.ref b), .val (.int (1 : Int32)), .val (.ref mr), .val (.ref b2)] [(.int (1 : Int32)), (.int (10 : Int32)), (.int (0 : Int32)), (.ref b2), (.int (0 : Int32)), (.ref b)])) _
    refine st6 _ ?_
    show Steps p.tables e below (T6.setTop (mkF m 35 #[.val (.ref b), .val (.int (1 : Int32)), .val (.ref mr), .val (.ref b2)] [(.int (1 : Int32)), (.int (0 : Int32)), (.ref b2), (.int (0 : Int32)), (.ref b)])) _
    refine st10 _ ?_
    show Steps p.tables e below (T10.setTop (mkF m 38 #[.val (.ref b), .val (.int (1 : Int32)), .val (.ref mr), .val (.ref b2)] [])) _
    refine XS.aloadN X10.here hx rfl (hb hby d_jdk_65_method_120_code_38) rfl rfl ?_
    show Steps p.tables e below (T10.setTop (mkF m 39 #[.val (.ref b), .val (.int (1 : Int32)), .val (.ref mr), .val (.ref b2)] [(.ref b2)])) _
    exact retOut X10 hx Bd.returns rfl (Or.inr (Or.inr (Or.inr (Or.inr ⟨rfl, rfl, rfl⟩)))) (hb hby d_jdk_65_method_120_code_39) hretL
  · show Q_rmca1 Z b mr kk C sp h0 n0 _ T10.heap _
    rw [e10]
    exact ⟨_, _, rfl, N10, K11, Vc10⟩
theorem d_jdk_65_method_119_code_0 : decode jdk_65_method_119_code 0 = .ok (.aload_n 0, 1) := by decide +kernel
theorem d_jdk_65_method_119_code_1 : decode jdk_65_method_119_code 1 = .ok (.iload_n 1, 1) := by decide +kernel
theorem d_jdk_65_method_119_code_2 : decode jdk_65_method_119_code 2 = .ok (.aload_n 0, 1) := by decide +kernel
theorem d_jdk_65_method_119_code_3 : decode jdk_65_method_119_code 3 = .ok (.invokevirtual 86, 3) := by decide +kernel
theorem d_jdk_65_method_119_code_6 : decode jdk_65_method_119_code 6 = .ok (.invokestatic 300, 3) := by decide +kernel
theorem d_jdk_65_method_119_code_9 : decode jdk_65_method_119_code 9 = .ok (.areturn, 1) := by decide +kernel
def Q_rmcb1 (Z : State) (b : Addr) (kk : ClassId) (C : String) (sp : Addr) (mr : Addr) (h0 : Heap) (n0 : Nat) (v : Option Value) (h : Heap) (L : List Loc) : Prop := ∃ (b2 : Addr) (k2 : ClassId), v = some (.ref b2) ∧ Fr n0 L ∧ Keep h0 h [] ∧ Arv Z h b2 k2 (.object "java/lang/Object") (1 : Int32) [(.ref sp)] .null
theorem ef_rmcb1 (m : MethodId) (b : Addr) : entryFrame m #[(.ref b), (.int (1 : Int32))] 2 = mkF m 0 #[.val (.ref b), .val (.int (1 : Int32))] [] := by first | (simp [entryFrame, mkF, argsToLocals, Value.category]; done) | rfl
set_option maxRecDepth 65536 in
set_option maxHeartbeats 40000000 in
theorem rmcb1 (l : Launch) (Z : State) (a0 : Array Value) (hw : ∀ d ∈ tables_1, d.before a0 Z = true) (ws : List Jvm.Cond) (b : Addr) (kk : ClassId) (C : String) (sp : Addr) (mr : Addr) (h0 : Heap) (n0 : Nat) (O0 : Old Z n0 h0) (Eb : Exa Z h0 b "[Ljava/lang/Object;") (Ab : Arv Z h0 b kk (.object "java/lang/Object") (10 : Int32) [(.ref sp), .null, .null, .null, .null, .null, .null, .null, .null, .null] .null) (hM : MM Z "[Ljava/lang/Object;" mr) (Esp : Exa Z h0 sp C) (hcast : (Jvm.Cond.castable C "java/lang/Object").before a0 Z = true) :
    MetFree l (⟨"java/util/Arrays", "copyOf", "([Ljava/lang/Object;I)[Ljava/lang/Object;"⟩ : MethodName) (head1 (Jvm.Cond.code (⟨"java/util/Arrays", "copyOf", "([Ljava/lang/Object;I)[Ljava/lang/Object;"⟩ : MethodName) jdk_65_method_119_code 2 (some (.array (.object "java/lang/Object"))) :: ws) ({ frames := 2, cells := 1, slots := 1, locals := 75 } : Room)) (fun aa U => aa = #[(.ref b), (.int (1 : Int32))] ∧ Z.Warmed39 U.vm ∧ U.heap = h0) (fun _ _ _ _ _ => True) (fun _ U o U' => ∃ v L, o = .returned v ∧ Q_rmcb1 Z b kk C sp mr h0 n0 v U'.heap L ∧ FrameEnd U o U' L ({ frames := 2, cells := 1, slots := 1, locals := 75 } : Room).cells ({ frames := 2, cells := 1, slots := 1, locals := 75 } : Room).slots) := by
  refine MetFree.of_bodySF (plainFor_of_name pn13) hisR ?_
  intro p e s m args below meth c s₁ Bd hml0 hP hK
  obtain ⟨rfl, hZ, hh⟩ := hP
  have hx := Bd.exec
  have hby := Bd.bytes
  have hml : c.maxLocals = 2 := hml0
  have hown : s.vm.findClass "java/util/Arrays" = some m.cls := findClass_of_methodNamed Bd.named
  have hnm := (name_of_methodNamed Bd.named Bd.method).1
  have X0 : Stand p l e ({ frames := 2, cells := 1, slots := 1, locals := 75 } : Room) s m #[(.ref b), (.int (1 : Int32))] below meth c s₁ [] 0 0 := Stand.of_body Bd
  have e0 : s₁.heap = h0 := by rw [← hh, Bd.state]; rfl
  have N0 := Fr.nil n0
  have K0 : Keep h0 h0 [] := Keep.refl _ _
  have pre0 : ∀ tgt, Steps p.tables e below (s₁.setTop (mkF m 0 #[.val (.ref b), .val (.int (1 : Int32))] [])) tgt → Steps p.tables e below (s₁.setTop (entryFrame m #[(.ref b), (.int (1 : Int32))] 2)) tgt := fun tgt kgo => castTop (ef_rmcb1 m b) kgo
  obtain ⟨T1, X1, e1, st1⟩ := own_gcls X0 hx hZ hown (ow134 hw) (ow135 hw) (ow107 hw) (ow137 hw) (ow136 hw) (ow138 hw) e0 Eb hM (g := (mkF m 3 #[.val (.ref b), .val (.int (1 : Int32))] [(.ref b), (.int (1 : Int32)), (.ref b)])) rfl (by rw [hml]; rfl) rfl (hb hby d_jdk_65_method_119_code_3) (by decide) (W := 2) (by show 2 * 0 + _ ≤ _; exact Nat.le_of_eq rfl) (by decide)
  obtain ⟨_, _, ⟨T2, L2, k2, n2⟩, -, X2, ⟨Lc2, hQ2, l2, y2, z2⟩, st2⟩ := Jvm.LawKit.callS X1 hx (y := (⟨"java/util/Arrays", "copyOf", "([Ljava/lang/Object;ILjava/lang/Class;)[Ljava/lang/Object;"⟩ : MethodName)) hown (mvT hZ (ow140 hw)) (mvT hZ (ow141 hw)) (mvT hZ (ow132 hw)) (mvT hZ (ow142 hw)) (by decide) (backOf (W := 0) (rmca1 l Z a0 hw [] b mr kk C sp h0 n0 O0 Ab hM Esp hcast) hZ (ow142 hw) (ow132 hw) (by decide) (by decide)) (g := (mkF m 6 #[.val (.ref b), .val (.int (1 : Int32))] [(.ref mr), (.int (1 : Int32)), (.ref b)])) rfl (by rw [hml]; rfl) (argsL := [(.ref b), (.int (1 : Int32)), (.ref mr)]) (rest := []) (lenOf pd10 rfl) rfl (by show 2 * 0 + _ ≤ _; exact Nat.le_of_eq rfl) (hb hby d_jdk_65_method_119_code_6) (fun _ _ => ⟨rfl, e1, (by decide : 0 + 1 ≤ _), (by decide : 0 + 1 ≤ _)⟩)
  dsimp only [Pt.U, Pt.locs, Pt.cells, Pt.slots] at X2 l2 y2 z2 st2 hQ2
  subst l2 y2 z2
  obtain ⟨b22, k22, rfl, Nq2, kp2, Ac2⟩ := hQ2
  have N3 := Fr.app N0 Nq2
  have Ol4 := O0.keep kp2 all0
  have K4 := K0.trans kp2 all0
  obtain ⟨fs, hretL, hrun, hended, hW, hsame⟩ := X2.leave (v := some (.ref b22)) (fun h => by rw [Bd.returns] at h; cases h)
  refine ⟨_, _, pre0 _ ?_, hrun, hended, _, _, rfl, ?_, ⟨_, rfl⟩, hW, hsame.mono (by decide) (by decide)⟩
  · refine XS.aloadN X0.here hx rfl (hb hby d_jdk_65_method_119_code_0) rfl rfl ?_
    show Steps p.tables e below (s₁.setTop (mkF m 1 #[.val (.ref b), .val (.int (1 : Int32))] [(.ref b)])) _
    refine XS.iloadN X0.here hx rfl (hb hby d_jdk_65_method_119_code_1) rfl ?_
    show Steps p.tables e below (s₁.setTop (mkF m 2 #[.val (.ref b), .val (.int (1 : Int32))] [(.int (1 : Int32)), (.ref b)])) _
    refine XS.aloadN X0.here hx rfl (hb hby d_jdk_65_method_119_code_2) rfl rfl ?_
    show Steps p.tables e below (s₁.setTop (mkF m 3 #[.val (.ref b), .val (.int (1 : Int32))] [(.ref b), (.int (1 : Int32)), (.ref b)])) _
    refine st1 _ ?_
    show Steps p.tables e below (T1.setTop (mkF m 6 #[.val (.ref b), .val (.int (1 : Int32))] [(.ref mr), (.int (1 : Int32)), (.ref b)])) _
    refine st2 _ ?_
    show Steps p.tables e below (T2.setTop (mkF m 9 #[.val (.ref b), .val (.int (1 : Int32))] [(.ref b22)])) _
    exact retOut X2 hx Bd.returns rfl (Or.inr (Or.inr (Or.inr (Or.inr ⟨rfl, rfl, rfl⟩)))) (hb hby d_jdk_65_method_119_code_9) hretL
  · show Q_rmcb1 Z b kk C sp mr h0 n0 _ T2.heap _
    exact ⟨_, _, rfl, N3, K4, Ac2⟩
theorem d_jdk_38_method_16_code_0 : decode jdk_38_method_16_code 0 = .ok (.aload_n 0, 1) := by decide +kernel
theorem d_jdk_38_method_16_code_1 : decode jdk_38_method_16_code 1 = .ok (.getfield 9, 3) := by decide +kernel
theorem d_jdk_38_method_16_code_4 : decode jdk_38_method_16_code 4 = .ok (.aload_n 0, 1) := by decide +kernel
theorem d_jdk_38_method_16_code_5 : decode jdk_38_method_16_code 5 = .ok (.getfield 48, 3) := by decide +kernel
theorem d_jdk_38_method_16_code_8 : decode jdk_38_method_16_code 8 = .ok (.invokestatic 66, 3) := by decide +kernel
theorem d_jdk_38_method_16_code_11 : decode jdk_38_method_16_code 11 = .ok (.areturn, 1) := by decide +kernel
def Q_rmta1 (Z : State) (a : Addr) (b : Addr) (kk : ClassId) (C : String) (sp : Addr) (mr : Addr) (h0 : Heap) (n0 : Nat) (v : Option Value) (h : Heap) (L : List Loc) : Prop := ∃ (b2 : Addr) (k2 : ClassId), v = some (.ref b2) ∧ Fr n0 L ∧ Keep h0 h [] ∧ Arv Z h b2 k2 (.object "java/lang/Object") (1 : Int32) [(.ref sp)] .null
theorem ef_rmta1 (m : MethodId) (a : Addr) : entryFrame m #[(.ref a)] 1 = mkF m 0 #[.val (.ref a)] [] := by first | (simp [entryFrame, mkF, argsToLocals, Value.category]; done) | rfl
set_option maxRecDepth 65536 in
set_option maxHeartbeats 40000000 in
theorem rmta1 (l : Launch) (Z : State) (a0 : Array Value) (hw : ∀ d ∈ tables_1, d.before a0 Z = true) (ws : List Jvm.Cond) (a : Addr) (b : Addr) (kk : ClassId) (C : String) (sp : Addr) (mr : Addr) (h0 : Heap) (n0 : Nat) (O0 : Old Z n0 h0) (Fs : Fld Z h0 a "java/util/ArrayList" "size" "I" (.int (1 : Int32))) (Fe : Fld Z h0 a "java/util/ArrayList" "elementData" "[Ljava/lang/Object;" (.ref b)) (Eb : Exa Z h0 b "[Ljava/lang/Object;") (Ab : Arv Z h0 b kk (.object "java/lang/Object") (10 : Int32) [(.ref sp), .null, .null, .null, .null, .null, .null, .null, .null, .null] .null) (hM : MM Z "[Ljava/lang/Object;" mr) (Esp : Exa Z h0 sp C) (hcast : (Jvm.Cond.castable C "java/lang/Object").before a0 Z = true) :
    MetFree l (⟨"java/util/ArrayList", "toArray", "()[Ljava/lang/Object;"⟩ : MethodName) (head1 (Jvm.Cond.code (⟨"java/util/ArrayList", "toArray", "()[Ljava/lang/Object;"⟩ : MethodName) jdk_38_method_16_code 1 (some (.array (.object "java/lang/Object"))) :: ws) ({ frames := 3, cells := 1, slots := 1, locals := 88 } : Room)) (fun aa U => aa = #[(.ref a)] ∧ Z.Warmed39 U.vm ∧ U.heap = h0) (fun _ _ _ _ _ => True) (fun _ U o U' => ∃ v L, o = .returned v ∧ Q_rmta1 Z a b kk C sp mr h0 n0 v U'.heap L ∧ FrameEnd U o U' L ({ frames := 3, cells := 1, slots := 1, locals := 88 } : Room).cells ({ frames := 3, cells := 1, slots := 1, locals := 88 } : Room).slots) := by
  refine MetFree.of_bodySF (plainFor_of_name pn7) hisR ?_
  intro p e s m args below meth c s₁ Bd hml0 hP hK
  obtain ⟨rfl, hZ, hh⟩ := hP
  have hx := Bd.exec
  have hby := Bd.bytes
  have hml : c.maxLocals = 1 := hml0
  have hown : s.vm.findClass "java/util/ArrayList" = some m.cls := findClass_of_methodNamed Bd.named
  have hnm := (name_of_methodNamed Bd.named Bd.method).1
  have X0 : Stand p l e ({ frames := 3, cells := 1, slots := 1, locals := 88 } : Room) s m #[(.ref a)] below meth c s₁ [] 0 0 := Stand.of_body Bd
  have e0 : s₁.heap = h0 := by rw [← hh, Bd.state]; rfl
  have N0 := Fr.nil n0
  have K0 : Keep h0 h0 [] := Keep.refl _ _
  have pre0 : ∀ tgt, Steps p.tables e below (s₁.setTop (mkF m 0 #[.val (.ref a)] [])) tgt → Steps p.tables e below (s₁.setTop (entryFrame m #[(.ref a)] 1)) tgt := fun tgt kgo => castTop (ef_rmta1 m a) kgo
  obtain ⟨T1, X1, e1, st1⟩ := getF X0 hx hZ hown (host := "") (Or.inl (ow55 hw)) Via.refl e0 Fe (g := (mkF m 1 #[.val (.ref a)] [(.ref a)])) rfl rfl (hb hby d_jdk_38_method_16_code_1)
  obtain ⟨T2, X2, e2, st2⟩ := getF X1 hx hZ hown (host := "") (Or.inl (ow64 hw)) Via.refl e1 Fs (g := (mkF m 5 #[.val (.ref a)] [(.ref a), (.ref b)])) rfl rfl (hb hby d_jdk_38_method_16_code_5)
  obtain ⟨_, _, ⟨T3, L3, k3, n3⟩, -, X3, ⟨Lc3, hQ3, l3, y3, z3⟩, st3⟩ := Jvm.LawKit.callS X2 hx (y := (⟨"java/util/Arrays", "copyOf", "([Ljava/lang/Object;I)[Ljava/lang/Object;"⟩ : MethodName)) hown (mvT hZ (ow130 hw)) (mvT hZ (ow131 hw)) (mvT hZ (ow132 hw)) (mvT hZ (ow133 hw)) (by decide) (backOf (W := 0) (rmcb1 l Z a0 hw [] b kk C sp mr h0 n0 O0 Eb Ab hM Esp hcast) hZ (ow133 hw) (ow132 hw) (by decide) (by decide)) (g := (mkF m 8 #[.val (.ref a)] [(.int (1 : Int32)), (.ref b)])) rfl (by rw [hml]; rfl) (argsL := [(.ref b), (.int (1 : Int32))]) (rest := []) (lenOf pd11 rfl) rfl (by show 2 * 0 + _ ≤ _; exact Nat.le_of_eq rfl) (hb hby d_jdk_38_method_16_code_8) (fun _ _ => ⟨rfl, e2, (by decide : 0 + 1 ≤ _), (by decide : 0 + 1 ≤ _)⟩)
  dsimp only [Pt.U, Pt.locs, Pt.cells, Pt.slots] at X3 l3 y3 z3 st3 hQ3
  subst l3 y3 z3
  obtain ⟨b23, k23, rfl, Nq3, kp3, Ac3⟩ := hQ3
  have N4 := Fr.app N0 Nq3
  have Ol5 := O0.keep kp3 all0
  have K5 := K0.trans kp3 all0
  obtain ⟨fs, hretL, hrun, hended, hW, hsame⟩ := X3.leave (v := some (.ref b23)) (fun h => by rw [Bd.returns] at h; cases h)
  refine ⟨_, _, pre0 _ ?_, hrun, hended, _, _, rfl, ?_, ⟨_, rfl⟩, hW, hsame.mono (by decide) (by decide)⟩
  · refine XS.aloadN X0.here hx rfl (hb hby d_jdk_38_method_16_code_0) rfl rfl ?_
    show Steps p.tables e below (s₁.setTop (mkF m 1 #[.val (.ref a)] [(.ref a)])) _
    refine st1 _ ?_
    show Steps p.tables e below (T1.setTop (mkF m 4 #[.val (.ref a)] [(.ref b)])) _
    refine XS.aloadN X1.here hx rfl (hb hby d_jdk_38_method_16_code_4) rfl rfl ?_
    show Steps p.tables e below (T1.setTop (mkF m 5 #[.val (.ref a)] [(.ref a), (.ref b)])) _
    refine st2 _ ?_
    show Steps p.tables e below (T2.setTop (mkF m 8 #[.val (.ref a)] [(.int (1 : Int32)), (.ref b)])) _
    refine st3 _ ?_
    show Steps p.tables e below (T3.setTop (mkF m 11 #[.val (.ref a)] [(.ref b23)])) _
    exact retOut X3 hx Bd.returns rfl (Or.inr (Or.inr (Or.inr (Or.inr ⟨rfl, rfl, rfl⟩)))) (hb hby d_jdk_38_method_16_code_11) hretL
  · show Q_rmta1 Z a b kk C sp mr h0 n0 _ T3.heap _
    exact ⟨_, _, rfl, N4, K5, Ac3⟩
def Q_rmca2 (Z : State) (b : Addr) (mr : Addr) (kk : ClassId) (C : String) (sp : Addr) (h0 : Heap) (n0 : Nat) (v : Option Value) (h : Heap) (L : List Loc) : Prop := ∃ (b2 : Addr) (k2 : ClassId), v = some (.ref b2) ∧ Fr n0 L ∧ Keep h0 h [] ∧ Arv Z h b2 k2 (.object "java/lang/Object") (2 : Int32) [(.ref sp), (.ref sp)] .null
theorem ef_rmca2 (m : MethodId) (b : Addr) (mr : Addr) : entryFrame m #[(.ref b), (.int (2 : Int32)), (.ref mr)] 4 = mkF m 0 #[.val (.ref b), .val (.int (2 : Int32)), .val (.ref mr), .unset] [] := by first | (simp [entryFrame, mkF, argsToLocals, Value.category]; done) | rfl
set_option maxRecDepth 65536 in
set_option maxHeartbeats 40000000 in
theorem rmca2 (l : Launch) (Z : State) (a0 : Array Value) (hw : ∀ d ∈ tables_1, d.before a0 Z = true) (ws : List Jvm.Cond) (b : Addr) (mr : Addr) (kk : ClassId) (C : String) (sp : Addr) (h0 : Heap) (n0 : Nat) (O0 : Old Z n0 h0) (Ab : Arv Z h0 b kk (.object "java/lang/Object") (10 : Int32) [(.ref sp), (.ref sp), .null, .null, .null, .null, .null, .null, .null, .null] .null) (hM : MM Z "[Ljava/lang/Object;" mr) (Esp : Exa Z h0 sp C) (hcast : (Jvm.Cond.castable C "java/lang/Object").before a0 Z = true) :
    MetFree l (⟨"java/util/Arrays", "copyOf", "([Ljava/lang/Object;ILjava/lang/Class;)[Ljava/lang/Object;"⟩ : MethodName) (head1 (Jvm.Cond.code (⟨"java/util/Arrays", "copyOf", "([Ljava/lang/Object;ILjava/lang/Class;)[Ljava/lang/Object;"⟩ : MethodName) jdk_65_method_120_code 4 (some (.array (.object "java/lang/Object"))) :: ws) ({ frames := 1, cells := 1, slots := 2, locals := 60 } : Room)) (fun aa U => aa = #[(.ref b), (.int (2 : Int32)), (.ref mr)] ∧ Z.Warmed39 U.vm ∧ U.heap = h0) (fun _ _ _ _ _ => True) (fun _ U o U' => ∃ v L, o = .returned v ∧ Q_rmca2 Z b mr kk C sp h0 n0 v U'.heap L ∧ FrameEnd U o U' L ({ frames := 1, cells := 1, slots := 2, locals := 60 } : Room).cells ({ frames := 1, cells := 1, slots := 2, locals := 60 } : Room).slots) := by
  refine MetFree.of_bodySF (plainFor_of_name pn13) hisR ?_
  intro p e s m args below meth c s₁ Bd hml0 hP hK
  obtain ⟨rfl, hZ, hh⟩ := hP
  have hx := Bd.exec
  have hby := Bd.bytes
  have hml : c.maxLocals = 4 := hml0
  have hown : s.vm.findClass "java/util/Arrays" = some m.cls := findClass_of_methodNamed Bd.named
  have hnm := (name_of_methodNamed Bd.named Bd.method).1
  have X0 : Stand p l e ({ frames := 1, cells := 1, slots := 2, locals := 60 } : Room) s m #[(.ref b), (.int (2 : Int32)), (.ref mr)] below meth c s₁ [] 0 0 := Stand.of_body Bd
  have e0 : s₁.heap = h0 := by rw [← hh, Bd.state]; rfl
  have N0 := Fr.nil n0
  have K0 : Keep h0 h0 [] := Keep.refl _ _
  have pre0 : ∀ tgt, Steps p.tables e below (s₁.setTop (mkF m 0 #[.val (.ref b), .val (.int (2 : Int32)), .val (.ref mr), .unset] [])) tgt → Steps p.tables e below (s₁.setTop (entryFrame m #[(.ref b), (.int (2 : Int32)), (.ref mr)] 4)) tgt := fun tgt kgo => castTop (ef_rmca2 m b mr) kgo
  obtain ⟨vm1, X1, st1⟩ := X0.ldcMirror hx hown (mvT hZ (ow143 hw)) (own_mir hZ hM) (g := (mkF m 1 #[.val (.ref b), .val (.int (2 : Int32)), .val (.ref mr), .unset] [(.ref mr)])) rfl (hb hby d_jdk_65_method_120_code_1)
  have e1 : (s₁.setVm vm1).heap = h0 := e0
  obtain ⟨T2, h2, k2, X2, e2, E2, A2, Ex2, Ov2, st2⟩ := newRE X1 hx hZ hown (ow144 hw) (ow86 hw) e1 (g := (mkF m 7 #[.val (.ref b), .val (.int (2 : Int32)), .val (.ref mr), .unset] [(.int (2 : Int32))])) rfl (hb hby d_jdk_65_method_120_code_7) rfl (by decide) (cap := 2) (by decide) (by decide) (by decide) (by decide) (ad := "[Ljava/lang/Object;") rfl
  obtain ⟨b2, g2⟩ : ∃ z, z = h0.size := ⟨_, rfl⟩
  rw [← g2] at A2 st2 Ex2
  have V2 : Arv Z h2 b2 k2 (.object "java/lang/Object") (2 : Int32) [.null, .null] .null := (Arv.new A2 (by decide)).pad (pad_rep [] .null 2)
  have gn2 : n0 ≤ b2 := Nat.le_trans (own_sz O0) (Nat.le_of_eq g2.symm)
  have sz2 : h0.size ≤ b2 := Nat.le_trans K0.1 (Nat.le_of_eq g2.symm)
  have neb_2 : b ≠ b2 := Nat.ne_of_lt (Nat.lt_of_lt_of_le Ab.lt (Nat.le_of_eq g2.symm))
  have nesp_2 : sp ≠ b2 := Nat.ne_of_lt (Nat.lt_of_lt_of_le Esp.lt (Nat.le_of_eq g2.symm))
  have Ol3 := O0.ext E2
  have K3 := K0.ext E2
  have f4 := (Ab.ext E2)
  obtain ⟨cl5, Ar5, q5, S5, M5, H5, G5⟩ := id f4
  obtain ⟨_, _, ⟨T6, L6, k6, n6⟩, -, X6, ⟨Lc6, hQ6, l6, y6, z6⟩, st6⟩ := Jvm.LawKit.callS X2 hx (y := (⟨"java/lang/Math", "min", "(II)I"⟩ : MethodName)) hown (mvT hZ (ow145 hw)) (mvT hZ (ow146 hw)) (mvT hZ (ow83 hw)) (mvT hZ (ow147 hw)) (by decide) (backOf (W := 4) (rmmin l Z a0 hw [] (10 : Int32) (2 : Int32)  h2 n0 Ol3 ) hZ (ow147 hw) (ow83 hw) (by decide) (by decide)) (g := (mkF m 32 #[.val (.ref b), .val (.int (2 : Int32)), .val (.ref mr), .val (.ref b2)] [(.int (2 : Int32)), (.int (10 : Int32)), (.int (0 : Int32)), (.ref b2), (.int (0 : Int32)), (.ref b)])) rfl (by rw [hml]; rfl) (argsL := [(.int (10 : Int32)), (.int (2 : Int32))]) (rest := [(.int (0 : Int32)), (.ref b2), (.int (0 : Int32)), (.ref b)]) (lenOf pd1 rfl) rfl (by show 2 * 0 + _ ≤ _; exact Nat.le_of_eq rfl) (hb hby d_jdk_65_method_120_code_32) (fun _ _ => ⟨rfl, e2, (by decide : 1 + 0 ≤ _), (by decide : 2 + 0 ≤ _)⟩)
  dsimp only [Pt.U, Pt.locs, Pt.cells, Pt.slots] at X6 l6 y6 z6 st6 hQ6
  subst l6 y6 z6
  obtain ⟨rfl, Nq6, eq6⟩ := hQ6
  have N7 := Fr.app N0 Nq6
  obtain ⟨cl8, Ar8, q8, -, -, -, -⟩ := id V2
  have f9 := (Esp.ext E2)
  obtain ⟨T10, h10, lo10, X10, e10, N10, kp10, V10, st10⟩ := cpA X6 hx hZ hown (ow148 hw) (ow151 hw) (ow149 hw) (ow150 hw) eq6 f4 V2 (Or.inr ⟨rfl, rfl, ⟨(Sto.ofV Ar8 q8 Ov2 (Ins.of_exa f9 hcast)), ⟨(Sto.ofV Ar8 q8 Ov2 (Ins.of_exa f9 hcast)), trivial⟩⟩⟩) (us := [(.ref sp), (.ref sp)]) (by decide) (by decide) (by decide) (by decide) (by decide) rfl (by decide) N7 gn2 (g := (mkF m 35 #[.val (.ref b), .val (.int (2 : Int32)), .val (.ref mr), .val (.ref b2)] [(.int (2 : Int32)), (.int (0 : Int32)), (.ref b2), (.int (0 : Int32)), (.ref b)])) rfl (by rw [hml]; rfl) rfl (hb hby d_jdk_65_method_120_code_35) (by decide) (W := 0) (by show 2 * 0 + _ ≤ _; exact Nat.le_of_eq rfl) (by decide)
  have Ol11 := Ol3.keep kp10 (allS gn2 all0)
  have K11 := K3.trans kp10 (allS (Or.inr sz2) all0)
  have Vc10 : Arv Z h10 b2 k2 (.object "java/lang/Object") (2 : Int32) [(.ref sp), (.ref sp)] .null := V10
  obtain ⟨fs, hretL, hrun, hended, hW, hsame⟩ := X10.leave (v := some (.ref b2)) (fun h => by rw [Bd.returns] at h; cases h)
  refine ⟨_, _, pre0 _ ?_, hrun, hended, _, _, rfl, ?_, ⟨_, rfl⟩, hW, hsame.mono (by decide) (by decide)⟩
  · refine XS.aloadN X0.here hx rfl (hb hby d_jdk_65_method_120_code_0) rfl rfl ?_
    show Steps p.tables e below (s₁.setTop (mkF m 1 #[.val (.ref b), .val (.int (2 : Int32)), .val (.ref mr), .unset] [(.ref mr)])) _
    refine st1 _ ?_
    show Steps p.tables e below ((s₁.setVm vm1).setTop (mkF m 3 #[.val (.ref b), .val (.int (2 : Int32)), .val (.ref mr), .unset] [(.ref mr), (.ref mr)])) _
    refine Jvm.RoadKit.acmp (g := (mkF m 3 #[.val (.ref b), .val (.int (2 : Int32)), .val (.ref mr), .unset] [(.ref mr), (.ref mr)])) X1 hx rfl rfl rfl (pc0 := 3) (pc' := 6) (same := true) rfl (hb hby d_jdk_65_method_120_code_3) rfl (decide_eq_true (congrArg Value.ref rfl)) (by decide) (by decide) ?_
    show Steps p.tables e below ((s₁.setVm vm1).setTop (mkF m 6 #[.val (.ref b), .val (.int (2 : Int32)), .val (.ref mr), .unset] [])) _
    refine XS.iloadN X1.here hx rfl (hb hby d_jdk_65_method_120_code_6) rfl ?_
    show Steps p.tables e below ((s₁.setVm vm1).setTop (mkF m 7 #[.val (.ref b), .val (.int (2 : Int32)), .val (.ref mr), .unset] [(.int (2 : Int32))])) _
    refine st2 _ ?_
    show Steps p.tables e below (T2.setTop (mkF m 10 #[.val (.ref b), .val (.int (2 : Int32)), .val (.ref mr), .unset] [(.ref b2)])) _
    refine XS.goto X2.here hx rfl (pc0 := 10) (pc' := 24) rfl (hb hby d_jdk_65_method_120_code_10) (by decide) (by decide) ?_
    show Steps p.tables e below (T2.setTop (mkF m 24 #[.val (.ref b), .val (.int (2 : Int32)), .val (.ref mr), .unset] [(.ref b2)])) _
    refine XS.astoreN X2.here hx rfl (hb hby d_jdk_65_method_120_code_24) rfl rfl (l' := #[.val (.ref b), .val (.int (2 : Int32)), .val (.ref mr), .val (.ref b2)]) rfl ?_
    show Steps p.tables e below (T2.setTop (mkF m 25 #[.val (.ref b), .val (.int (2 : Int32)), .val (.ref mr), .val (.ref b2)] [])) _
    refine XS.aloadN X2.here hx rfl (hb hby d_jdk_65_method_120_code_25) rfl rfl ?_
    show Steps p.tables e below (T2.setTop (mkF m 26 #[.val (.ref b), .val (.int (2 : Int32)), .val (.ref mr), .val (.ref b2)] [(.ref b)])) _
    refine XS.iconst X2.here hx rfl (hb hby d_jdk_65_method_120_code_26) ?_
    show Steps p.tables e below (T2.setTop (mkF m 27 #[.val (.ref b), .val (.int (2 : Int32)), .val (.ref mr), .val (.ref b2)] [(.int (0 : Int32)), (.ref b)])) _
    refine XS.aloadN X2.here hx rfl (hb hby d_jdk_65_method_120_code_27) rfl rfl ?_
    show Steps p.tables e below (T2.setTop (mkF m 28 #[.val (.ref b), .val (.int (2 : Int32)), .val (.ref mr), .val (.ref b2)] [(.ref b2), (.int (0 : Int32)), (.ref b)])) _
    refine XS.iconst X2.here hx rfl (hb hby d_jdk_65_method_120_code_28) ?_
    show Steps p.tables e below (T2.setTop (mkF m 29 #[.val (.ref b), .val (.int (2 : Int32)), .val (.ref mr), .val (.ref b2)] [(.int (0 : Int32)), (.ref b2), (.int (0 : Int32)), (.ref b)])) _
    refine XS.aloadN X2.here hx rfl (hb hby d_jdk_65_method_120_code_29) rfl rfl ?_
    show Steps p.tables e below (T2.setTop (mkF m 30 #[.val (.ref b), .val (.int (2 : Int32)), .val (.ref mr), .val (.ref b2)] [(.ref b), (.int (0 : Int32)), (.ref b2), (.int (0 : Int32)), (.ref b)])) _
    refine X2.arraylength hx (by rw [e2]; exact Ar5.1) (State.isArrayOf_alike hZ.alike Ar5.2.1) (g := (mkF m 30 #[.val (.ref b), .val (.int (2 : Int32)), .val (.ref mr), .val (.ref b2)] [(.ref b), (.int (0 : Int32)), (.ref b2), (.int (0 : Int32)), (.ref b)])) rfl rfl (hb hby d_jdk_65_method_120_code_30) _ ?_
    rw [len_of S5 M5]
    show Steps p.tables e below (T2.setTop (mkF m 31 #[.val (.ref b), .val (.int (2 : Int32)), .val (.ref mr), .val (.ref b2)] [(.int (10 : Int32)), (.int (0 : Int32)), (.ref b2), (.int (0 : Int32)), (.ref b)])) _
    refine XS.iloadN X2.here hx rfl (hb hby d_jdk_65_method_120_code_31) rfl ?_
    show Steps p.tables e below (T2.setTop (mkF m 32 #[.val (.ref b), .val (.int (2 : Int32)), .val (.ref mr), .val (.ref b2)] [(.int (2 : Int32)), (.int (10 : Int32)), (.int (0 : Int32)), (.ref b2), (.int (0 : Int32)), (.ref b)])) _
    refine st6 _ ?_
    show Steps p.tables e below (T6.setTop (mkF m 35 #[.val (.ref b), .val (.int (2 : Int32)), .val (.ref mr), .val (.ref b2)] [(.int (2 : Int32)), (.int (0 : Int32)), (.ref b2), (.int (0 : Int32)), (.ref b)])) _
    refine st10 _ ?_
    show Steps p.tables e below (T10.setTop (mkF m 38 #[.val (.ref b), .val (.int (2 : Int32)), .val (.ref mr), .val (.ref b2)] [])) _
    refine XS.aloadN X10.here hx rfl (hb hby d_jdk_65_method_120_code_38) rfl rfl ?_
    show Steps p.tables e below (T10.setTop (mkF m 39 #[.val (.ref b), .val (.int (2 : Int32)), .val (.ref mr), .val (.ref b2)] [(.ref b2)])) _
    exact retOut X10 hx Bd.returns rfl (Or.inr (Or.inr (Or.inr (Or.inr ⟨rfl, rfl, rfl⟩)))) (hb hby d_jdk_65_method_120_code_39) hretL
  · show Q_rmca2 Z b mr kk C sp h0 n0 _ T10.heap _
    rw [e10]
    exact ⟨_, _, rfl, N10, K11, Vc10⟩
def Q_rmcb2 (Z : State) (b : Addr) (kk : ClassId) (C : String) (sp : Addr) (mr : Addr) (h0 : Heap) (n0 : Nat) (v : Option Value) (h : Heap) (L : List Loc) : Prop := ∃ (b2 : Addr) (k2 : ClassId), v = some (.ref b2) ∧ Fr n0 L ∧ Keep h0 h [] ∧ Arv Z h b2 k2 (.object "java/lang/Object") (2 : Int32) [(.ref sp), (.ref sp)] .null
theorem ef_rmcb2 (m : MethodId) (b : Addr) : entryFrame m #[(.ref b), (.int (2 : Int32))] 2 = mkF m 0 #[.val (.ref b), .val (.int (2 : Int32))] [] := by first | (simp [entryFrame, mkF, argsToLocals, Value.category]; done) | rfl
set_option maxRecDepth 65536 in
set_option maxHeartbeats 40000000 in
theorem rmcb2 (l : Launch) (Z : State) (a0 : Array Value) (hw : ∀ d ∈ tables_1, d.before a0 Z = true) (ws : List Jvm.Cond) (b : Addr) (kk : ClassId) (C : String) (sp : Addr) (mr : Addr) (h0 : Heap) (n0 : Nat) (O0 : Old Z n0 h0) (Eb : Exa Z h0 b "[Ljava/lang/Object;") (Ab : Arv Z h0 b kk (.object "java/lang/Object") (10 : Int32) [(.ref sp), (.ref sp), .null, .null, .null, .null, .null, .null, .null, .null] .null) (hM : MM Z "[Ljava/lang/Object;" mr) (Esp : Exa Z h0 sp C) (hcast : (Jvm.Cond.castable C "java/lang/Object").before a0 Z = true) :
    MetFree l (⟨"java/util/Arrays", "copyOf", "([Ljava/lang/Object;I)[Ljava/lang/Object;"⟩ : MethodName) (head1 (Jvm.Cond.code (⟨"java/util/Arrays", "copyOf", "([Ljava/lang/Object;I)[Ljava/lang/Object;"⟩ : MethodName) jdk_65_method_119_code 2 (some (.array (.object "java/lang/Object"))) :: ws) ({ frames := 2, cells := 1, slots := 2, locals := 75 } : Room)) (fun aa U => aa = #[(.ref b), (.int (2 : Int32))] ∧ Z.Warmed39 U.vm ∧ U.heap = h0) (fun _ _ _ _ _ => True) (fun _ U o U' => ∃ v L, o = .returned v ∧ Q_rmcb2 Z b kk C sp mr h0 n0 v U'.heap L ∧ FrameEnd U o U' L ({ frames := 2, cells := 1, slots := 2, locals := 75 } : Room).cells ({ frames := 2, cells := 1, slots := 2, locals := 75 } : Room).slots) := by
  refine MetFree.of_bodySF (plainFor_of_name pn13) hisR ?_
  intro p e s m args below meth c s₁ Bd hml0 hP hK
  obtain ⟨rfl, hZ, hh⟩ := hP
  have hx := Bd.exec
  have hby := Bd.bytes
  have hml : c.maxLocals = 2 := hml0
  have hown : s.vm.findClass "java/util/Arrays" = some m.cls := findClass_of_methodNamed Bd.named
  have hnm := (name_of_methodNamed Bd.named Bd.method).1
  have X0 : Stand p l e ({ frames := 2, cells := 1, slots := 2, locals := 75 } : Room) s m #[(.ref b), (.int (2 : Int32))] below meth c s₁ [] 0 0 := Stand.of_body Bd
  have e0 : s₁.heap = h0 := by rw [← hh, Bd.state]; rfl
  have N0 := Fr.nil n0
  have K0 : Keep h0 h0 [] := Keep.refl _ _
  have pre0 : ∀ tgt, Steps p.tables e below (s₁.setTop (mkF m 0 #[.val (.ref b), .val (.int (2 : Int32))] [])) tgt → Steps p.tables e below (s₁.setTop (entryFrame m #[(.ref b), (.int (2 : Int32))] 2)) tgt := fun tgt kgo => castTop (ef_rmcb2 m b) kgo
  obtain ⟨T1, X1, e1, st1⟩ := own_gcls X0 hx hZ hown (ow134 hw) (ow135 hw) (ow107 hw) (ow137 hw) (ow136 hw) (ow138 hw) e0 Eb hM (g := (mkF m 3 #[.val (.ref b), .val (.int (2 : Int32))] [(.ref b), (.int (2 : Int32)), (.ref b)])) rfl (by rw [hml]; rfl) rfl (hb hby d_jdk_65_method_119_code_3) (by decide) (W := 2) (by show 2 * 0 + _ ≤ _; exact Nat.le_of_eq rfl) (by decide)
  obtain ⟨_, _, ⟨T2, L2, k2, n2⟩, -, X2, ⟨Lc2, hQ2, l2, y2, z2⟩, st2⟩ := Jvm.LawKit.callS X1 hx (y := (⟨"java/util/Arrays", "copyOf", "([Ljava/lang/Object;ILjava/lang/Class;)[Ljava/lang/Object;"⟩ : MethodName)) hown (mvT hZ (ow140 hw)) (mvT hZ (ow141 hw)) (mvT hZ (ow132 hw)) (mvT hZ (ow142 hw)) (by decide) (backOf (W := 0) (rmca2 l Z a0 hw [] b mr kk C sp h0 n0 O0 Ab hM Esp hcast) hZ (ow142 hw) (ow132 hw) (by decide) (by decide)) (g := (mkF m 6 #[.val (.ref b), .val (.int (2 : Int32))] [(.ref mr), (.int (2 : Int32)), (.ref b)])) rfl (by rw [hml]; rfl) (argsL := [(.ref b), (.int (2 : Int32)), (.ref mr)]) (rest := []) (lenOf pd10 rfl) rfl (by show 2 * 0 + _ ≤ _; exact Nat.le_of_eq rfl) (hb hby d_jdk_65_method_119_code_6) (fun _ _ => ⟨rfl, e1, (by decide : 0 + 1 ≤ _), (by decide : 0 + 2 ≤ _)⟩)
  dsimp only [Pt.U, Pt.locs, Pt.cells, Pt.slots] at X2 l2 y2 z2 st2 hQ2
  subst l2 y2 z2
  obtain ⟨b22, k22, rfl, Nq2, kp2, Ac2⟩ := hQ2
  have N3 := Fr.app N0 Nq2
  have Ol4 := O0.keep kp2 all0
  have K4 := K0.trans kp2 all0
  obtain ⟨fs, hretL, hrun, hended, hW, hsame⟩ := X2.leave (v := some (.ref b22)) (fun h => by rw [Bd.returns] at h; cases h)
  refine ⟨_, _, pre0 _ ?_, hrun, hended, _, _, rfl, ?_, ⟨_, rfl⟩, hW, hsame.mono (by decide) (by decide)⟩
  · refine XS.aloadN X0.here hx rfl (hb hby d_jdk_65_method_119_code_0) rfl rfl ?_
    show Steps p.tables e below (s₁.setTop (mkF m 1 #[.val (.ref b), .val (.int (2 : Int32))] [(.ref b)])) _
    refine XS.iloadN X0.here hx rfl (hb hby d_jdk_65_method_119_code_1) rfl ?_
    show Steps p.tables e below (s₁.setTop (mkF m 2 #[.val (.ref b), .val (.int (2 : Int32))] [(.int (2 : Int32)), (.ref b)])) _
    refine XS.aloadN X0.here hx rfl (hb hby d_jdk_65_method_119_code_2) rfl rfl ?_
    show Steps p.tables e below (s₁.setTop (mkF m 3 #[.val (.ref b), .val (.int (2 : Int32))] [(.ref b), (.int (2 : Int32)), (.ref b)])) _
    refine st1 _ ?_
    show Steps p.tables e below (T1.setTop (mkF m 6 #[.val (.ref b), .val (.int (2 : Int32))] [(.ref mr), (.int (2 : Int32)), (.ref b)])) _
    refine st2 _ ?_
    show Steps p.tables e below (T2.setTop (mkF m 9 #[.val (.ref b), .val (.int (2 : Int32))] [(.ref b22)])) _
    exact retOut X2 hx Bd.returns rfl (Or.inr (Or.inr (Or.inr (Or.inr ⟨rfl, rfl, rfl⟩)))) (hb hby d_jdk_65_method_119_code_9) hretL
  · show Q_rmcb2 Z b kk C sp mr h0 n0 _ T2.heap _
    exact ⟨_, _, rfl, N3, K4, Ac2⟩
def Q_rmta2 (Z : State) (a : Addr) (b : Addr) (kk : ClassId) (C : String) (sp : Addr) (mr : Addr) (h0 : Heap) (n0 : Nat) (v : Option Value) (h : Heap) (L : List Loc) : Prop := ∃ (b2 : Addr) (k2 : ClassId), v = some (.ref b2) ∧ Fr n0 L ∧ Keep h0 h [] ∧ Arv Z h b2 k2 (.object "java/lang/Object") (2 : Int32) [(.ref sp), (.ref sp)] .null
theorem ef_rmta2 (m : MethodId) (a : Addr) : entryFrame m #[(.ref a)] 1 = mkF m 0 #[.val (.ref a)] [] := by first | (simp [entryFrame, mkF, argsToLocals, Value.category]; done) | rfl
set_option maxRecDepth 65536 in
set_option maxHeartbeats 40000000 in
theorem rmta2 (l : Launch) (Z : State) (a0 : Array Value) (hw : ∀ d ∈ tables_1, d.before a0 Z = true) (ws : List Jvm.Cond) (a : Addr) (b : Addr) (kk : ClassId) (C : String) (sp : Addr) (mr : Addr) (h0 : Heap) (n0 : Nat) (O0 : Old Z n0 h0) (Fs : Fld Z h0 a "java/util/ArrayList" "size" "I" (.int (2 : Int32))) (Fe : Fld Z h0 a "java/util/ArrayList" "elementData" "[Ljava/lang/Object;" (.ref b)) (Eb : Exa Z h0 b "[Ljava/lang/Object;") (Ab : Arv Z h0 b kk (.object "java/lang/Object") (10 : Int32) [(.ref sp), (.ref sp), .null, .null, .null, .null, .null, .null, .null, .null] .null) (hM : MM Z "[Ljava/lang/Object;" mr) (Esp : Exa Z h0 sp C) (hcast : (Jvm.Cond.castable C "java/lang/Object").before a0 Z = true) :
    MetFree l (⟨"java/util/ArrayList", "toArray", "()[Ljava/lang/Object;"⟩ : MethodName) (head1 (Jvm.Cond.code (⟨"java/util/ArrayList", "toArray", "()[Ljava/lang/Object;"⟩ : MethodName) jdk_38_method_16_code 1 (some (.array (.object "java/lang/Object"))) :: ws) ({ frames := 3, cells := 1, slots := 2, locals := 88 } : Room)) (fun aa U => aa = #[(.ref a)] ∧ Z.Warmed39 U.vm ∧ U.heap = h0) (fun _ _ _ _ _ => True) (fun _ U o U' => ∃ v L, o = .returned v ∧ Q_rmta2 Z a b kk C sp mr h0 n0 v U'.heap L ∧ FrameEnd U o U' L ({ frames := 3, cells := 1, slots := 2, locals := 88 } : Room).cells ({ frames := 3, cells := 1, slots := 2, locals := 88 } : Room).slots) := by
  refine MetFree.of_bodySF (plainFor_of_name pn7) hisR ?_
  intro p e s m args below meth c s₁ Bd hml0 hP hK
  obtain ⟨rfl, hZ, hh⟩ := hP
  have hx := Bd.exec
  have hby := Bd.bytes
  have hml : c.maxLocals = 1 := hml0
  have hown : s.vm.findClass "java/util/ArrayList" = some m.cls := findClass_of_methodNamed Bd.named
  have hnm := (name_of_methodNamed Bd.named Bd.method).1
  have X0 : Stand p l e ({ frames := 3, cells := 1, slots := 2, locals := 88 } : Room) s m #[(.ref a)] below meth c s₁ [] 0 0 := Stand.of_body Bd
  have e0 : s₁.heap = h0 := by rw [← hh, Bd.state]; rfl
  have N0 := Fr.nil n0
  have K0 : Keep h0 h0 [] := Keep.refl _ _
  have pre0 : ∀ tgt, Steps p.tables e below (s₁.setTop (mkF m 0 #[.val (.ref a)] [])) tgt → Steps p.tables e below (s₁.setTop (entryFrame m #[(.ref a)] 1)) tgt := fun tgt kgo => castTop (ef_rmta2 m a) kgo
  obtain ⟨T1, X1, e1, st1⟩ := getF X0 hx hZ hown (host := "") (Or.inl (ow55 hw)) Via.refl e0 Fe (g := (mkF m 1 #[.val (.ref a)] [(.ref a)])) rfl rfl (hb hby d_jdk_38_method_16_code_1)
  obtain ⟨T2, X2, e2, st2⟩ := getF X1 hx hZ hown (host := "") (Or.inl (ow64 hw)) Via.refl e1 Fs (g := (mkF m 5 #[.val (.ref a)] [(.ref a), (.ref b)])) rfl rfl (hb hby d_jdk_38_method_16_code_5)
  obtain ⟨_, _, ⟨T3, L3, k3, n3⟩, -, X3, ⟨Lc3, hQ3, l3, y3, z3⟩, st3⟩ := Jvm.LawKit.callS X2 hx (y := (⟨"java/util/Arrays", "copyOf", "([Ljava/lang/Object;I)[Ljava/lang/Object;"⟩ : MethodName)) hown (mvT hZ (ow130 hw)) (mvT hZ (ow131 hw)) (mvT hZ (ow132 hw)) (mvT hZ (ow133 hw)) (by decide) (backOf (W := 0) (rmcb2 l Z a0 hw [] b kk C sp mr h0 n0 O0 Eb Ab hM Esp hcast) hZ (ow133 hw) (ow132 hw) (by decide) (by decide)) (g := (mkF m 8 #[.val (.ref a)] [(.int (2 : Int32)), (.ref b)])) rfl (by rw [hml]; rfl) (argsL := [(.ref b), (.int (2 : Int32))]) (rest := []) (lenOf pd11 rfl) rfl (by show 2 * 0 + _ ≤ _; exact Nat.le_of_eq rfl) (hb hby d_jdk_38_method_16_code_8) (fun _ _ => ⟨rfl, e2, (by decide : 0 + 1 ≤ _), (by decide : 0 + 2 ≤ _)⟩)
  dsimp only [Pt.U, Pt.locs, Pt.cells, Pt.slots] at X3 l3 y3 z3 st3 hQ3
  subst l3 y3 z3
  obtain ⟨b23, k23, rfl, Nq3, kp3, Ac3⟩ := hQ3
  have N4 := Fr.app N0 Nq3
  have Ol5 := O0.keep kp3 all0
  have K5 := K0.trans kp3 all0
  obtain ⟨fs, hretL, hrun, hended, hW, hsame⟩ := X3.leave (v := some (.ref b23)) (fun h => by rw [Bd.returns] at h; cases h)
  refine ⟨_, _, pre0 _ ?_, hrun, hended, _, _, rfl, ?_, ⟨_, rfl⟩, hW, hsame.mono (by decide) (by decide)⟩
  · refine XS.aloadN X0.here hx rfl (hb hby d_jdk_38_method_16_code_0) rfl rfl ?_
    show Steps p.tables e below (s₁.setTop (mkF m 1 #[.val (.ref a)] [(.ref a)])) _
    refine st1 _ ?_
    show Steps p.tables e below (T1.setTop (mkF m 4 #[.val (.ref a)] [(.ref b)])) _
    refine XS.aloadN X1.here hx rfl (hb hby d_jdk_38_method_16_code_4) rfl rfl ?_
    show Steps p.tables e below (T1.setTop (mkF m 5 #[.val (.ref a)] [(.ref a), (.ref b)])) _
    refine st2 _ ?_
    show Steps p.tables e below (T2.setTop (mkF m 8 #[.val (.ref a)] [(.int (2 : Int32)), (.ref b)])) _
    refine st3 _ ?_
    show Steps p.tables e below (T3.setTop (mkF m 11 #[.val (.ref a)] [(.ref b23)])) _
    exact retOut X3 hx Bd.returns rfl (Or.inr (Or.inr (Or.inr (Or.inr ⟨rfl, rfl, rfl⟩)))) (hb hby d_jdk_38_method_16_code_11) hretL
  · show Q_rmta2 Z a b kk C sp mr h0 n0 _ T3.heap _
    exact ⟨_, _, rfl, N4, K5, Ac3⟩
def Q_rmca3 (Z : State) (b : Addr) (mr : Addr) (kk : ClassId) (C : String) (sp : Addr) (h0 : Heap) (n0 : Nat) (v : Option Value) (h : Heap) (L : List Loc) : Prop := ∃ (b2 : Addr) (k2 : ClassId), v = some (.ref b2) ∧ Fr n0 L ∧ Keep h0 h [] ∧ Arv Z h b2 k2 (.object "java/lang/Object") (3 : Int32) [(.ref sp), (.ref sp), (.ref sp)] .null
theorem ef_rmca3 (m : MethodId) (b : Addr) (mr : Addr) : entryFrame m #[(.ref b), (.int (3 : Int32)), (.ref mr)] 4 = mkF m 0 #[.val (.ref b), .val (.int (3 : Int32)), .val (.ref mr), .unset] [] := by first | (simp [entryFrame, mkF, argsToLocals, Value.category]; done) | rfl
set_option maxRecDepth 65536 in
set_option maxHeartbeats 40000000 in
theorem rmca3 (l : Launch) (Z : State) (a0 : Array Value) (hw : ∀ d ∈ tables_1, d.before a0 Z = true) (ws : List Jvm.Cond) (b : Addr) (mr : Addr) (kk : ClassId) (C : String) (sp : Addr) (h0 : Heap) (n0 : Nat) (O0 : Old Z n0 h0) (Ab : Arv Z h0 b kk (.object "java/lang/Object") (10 : Int32) [(.ref sp), (.ref sp), (.ref sp), .null, .null, .null, .null, .null, .null, .null] .null) (hM : MM Z "[Ljava/lang/Object;" mr) (Esp : Exa Z h0 sp C) (hcast : (Jvm.Cond.castable C "java/lang/Object").before a0 Z = true) :
    MetFree l (⟨"java/util/Arrays", "copyOf", "([Ljava/lang/Object;ILjava/lang/Class;)[Ljava/lang/Object;"⟩ : MethodName) (head1 (Jvm.Cond.code (⟨"java/util/Arrays", "copyOf", "([Ljava/lang/Object;ILjava/lang/Class;)[Ljava/lang/Object;"⟩ : MethodName) jdk_65_method_120_code 4 (some (.array (.object "java/lang/Object"))) :: ws) ({ frames := 1, cells := 1, slots := 3, locals := 60 } : Room)) (fun aa U => aa = #[(.ref b), (.int (3 : Int32)), (.ref mr)] ∧ Z.Warmed39 U.vm ∧ U.heap = h0) (fun _ _ _ _ _ => True) (fun _ U o U' => ∃ v L, o = .returned v ∧ Q_rmca3 Z b mr kk C sp h0 n0 v U'.heap L ∧ FrameEnd U o U' L ({ frames := 1, cells := 1, slots := 3, locals := 60 } : Room).cells ({ frames := 1, cells := 1, slots := 3, locals := 60 } : Room).slots) := by
  refine MetFree.of_bodySF (plainFor_of_name pn13) hisR ?_
  intro p e s m args below meth c s₁ Bd hml0 hP hK
  obtain ⟨rfl, hZ, hh⟩ := hP
  have hx := Bd.exec
  have hby := Bd.bytes
  have hml : c.maxLocals = 4 := hml0
  have hown : s.vm.findClass "java/util/Arrays" = some m.cls := findClass_of_methodNamed Bd.named
  have hnm := (name_of_methodNamed Bd.named Bd.method).1
  have X0 : Stand p l e ({ frames := 1, cells := 1, slots := 3, locals := 60 } : Room) s m #[(.ref b), (.int (3 : Int32)), (.ref mr)] below meth c s₁ [] 0 0 := Stand.of_body Bd
  have e0 : s₁.heap = h0 := by rw [← hh, Bd.state]; rfl
  have N0 := Fr.nil n0
  have K0 : Keep h0 h0 [] := Keep.refl _ _
  have pre0 : ∀ tgt, Steps p.tables e below (s₁.setTop (mkF m 0 #[.val (.ref b), .val (.int (3 : Int32)), .val (.ref mr), .unset] [])) tgt → Steps p.tables e below (s₁.setTop (entryFrame m #[(.ref b), (.int (3 : Int32)), (.ref mr)] 4)) tgt := fun tgt kgo => castTop (ef_rmca3 m b mr) kgo
  obtain ⟨vm1, X1, st1⟩ := X0.ldcMirror hx hown (mvT hZ (ow143 hw)) (own_mir hZ hM) (g := (mkF m 1 #[.val (.ref b), .val (.int (3 : Int32)), .val (.ref mr), .unset] [(.ref mr)])) rfl (hb hby d_jdk_65_method_120_code_1)
  have e1 : (s₁.setVm vm1).heap = h0 := e0
  obtain ⟨T2, h2, k2, X2, e2, E2, A2, Ex2, Ov2, st2⟩ := newRE X1 hx hZ hown (ow144 hw) (ow86 hw) e1 (g := (mkF m 7 #[.val (.ref b), .val (.int (3 : Int32)), .val (.ref mr), .unset] [(.int (3 : Int32))])) rfl (hb hby d_jdk_65_method_120_code_7) rfl (by decide) (cap := 3) (by decide) (by decide) (by decide) (by decide) (ad := "[Ljava/lang/Object;") rfl
  obtain ⟨b2, g2⟩ : ∃ z, z = h0.size := ⟨_, rfl⟩
  rw [← g2] at A2 st2 Ex2
  have V2 : Arv Z h2 b2 k2 (.object "java/lang/Object") (3 : Int32) [.null, .null, .null] .null := (Arv.new A2 (by decide)).pad (pad_rep [] .null 3)
  have gn2 : n0 ≤ b2 := Nat.le_trans (own_sz O0) (Nat.le_of_eq g2.symm)
  have sz2 : h0.size ≤ b2 := Nat.le_trans K0.1 (Nat.le_of_eq g2.symm)
  have neb_2 : b ≠ b2 := Nat.ne_of_lt (Nat.lt_of_lt_of_le Ab.lt (Nat.le_of_eq g2.symm))
  have nesp_2 : sp ≠ b2 := Nat.ne_of_lt (Nat.lt_of_lt_of_le Esp.lt (Nat.le_of_eq g2.symm))
  have Ol3 := O0.ext E2
  have K3 := K0.ext E2
  have f4 := (Ab.ext E2)
  obtain ⟨cl5, Ar5, q5, S5, M5, H5, G5⟩ := id f4
  obtain ⟨_, _, ⟨T6, L6, k6, n6⟩, -, X6, ⟨Lc6, hQ6, l6, y6, z6⟩, st6⟩ := Jvm.LawKit.callS X2 hx (y := (⟨"java/lang/Math", "min", "(II)I"⟩ : MethodName)) hown (mvT hZ (ow145 hw)) (mvT hZ (ow146 hw)) (mvT hZ (ow83 hw)) (mvT hZ (ow147 hw)) (by decide) (backOf (W := 4) (rmmin l Z a0 hw [] (10 : Int32) (3 : Int32)  h2 n0 Ol3 ) hZ (ow147 hw) (ow83 hw) (by decide) (by decide)) (g := (mkF m 32 #[.val (.ref b), .val (.int (3 : Int32)), .val (.ref mr), .val (.ref b2)] [(.int (3 : Int32)), (.int (10 : Int32)), (.int (0 : Int32)), (.ref b2), (.int (0 : Int32)), (.ref b)])) rfl (by rw [hml]; rfl) (argsL := [(.int (10 : Int32)), (.int (3 : Int32))]) (rest := [(.int (0 : Int32)), (.ref b2), (.int (0 : Int32)), (.ref b)]) (lenOf pd1 rfl) rfl (by show 2 * 0 + _ ≤ _; exact Nat.le_of_eq rfl) (hb hby d_jdk_65_method_120_code_32) (fun _ _ => ⟨rfl, e2, (by decide : 1 + 0 ≤ _), (by decide : 3 + 0 ≤ _)⟩)
  dsimp only [Pt.U, Pt.locs, Pt.cells, Pt.slots] at X6 l6 y6 z6 st6 hQ6
  subst l6 y6 z6
  obtain ⟨rfl, Nq6, eq6⟩ := hQ6
  have N7 := Fr.app N0 Nq6
  obtain ⟨cl8, Ar8, q8, -, -, -, -⟩ := id V2
  have f9 := (Esp.ext E2)
  obtain ⟨T10, h10, lo10, X10, e10, N10, kp10, V10, st10⟩ := cpA X6 hx hZ hown (ow148 hw) (ow151 hw) (ow149 hw) (ow150 hw) eq6 f4 V2 (Or.inr ⟨rfl, rfl, ⟨(Sto.ofV Ar8 q8 Ov2 (Ins.of_exa f9 hcast)), ⟨(Sto.ofV Ar8 q8 Ov2 (Ins.of_exa f9 hcast)), ⟨(Sto.ofV Ar8 q8 Ov2 (Ins.of_exa f9 hcast)), trivial⟩⟩⟩⟩) (us := [(.ref sp), (.ref sp), (.ref sp)]) (by decide) (by decide) (by decide) (by decide) (by decide) rfl (by decide) N7 gn2 (g := (mkF m 35 #[.val (.ref b), .val (.int (3 : Int32)), .val (.ref mr), .val (.ref b2)] [(.int (3 : Int32)), (.int (0 : Int32)), (.ref b2), (.int (0 : Int32)), (.ref b)])) rfl (by rw [hml]; rfl) rfl (hb hby d_jdk_65_method_120_code_35) (by decide) (W := 0) (by show 2 * 0 + _ ≤ _; exact Nat.le_of_eq rfl) (by decide)
  have Ol11 := Ol3.keep kp10 (allS gn2 all0)
  have K11 := K3.trans kp10 (allS (Or.inr sz2) all0)
  have Vc10 : Arv Z h10 b2 k2 (.object "java/lang/Object") (3 : Int32) [(.ref sp), (.ref sp), (.ref sp)] .null := V10
  obtain ⟨fs, hretL, hrun, hended, hW, hsame⟩ := X10.leave (v := some (.ref b2)) (fun h => by rw [Bd.returns] at h; cases h)
  refine ⟨_, _, pre0 _ ?_, hrun, hended, _, _, rfl, ?_, ⟨_, rfl⟩, hW, hsame.mono (by decide) (by decide)⟩
  · refine XS.aloadN X0.here hx rfl (hb hby d_jdk_65_method_120_code_0) rfl rfl ?_
    show Steps p.tables e below (s₁.setTop (mkF m 1 #[.val (.ref b), .val (.int (3 : Int32)), .val (.ref mr), .unset] [(.ref mr)])) _
    refine st1 _ ?_
    show Steps p.tables e below ((s₁.setVm vm1).setTop (mkF m 3 #[.val (.ref b), .val (.int (3 : Int32)), .val (.ref mr), .unset] [(.ref mr), (.ref mr)])) _
    refine Jvm.RoadKit.acmp (g := (mkF m 3 #[.val (.ref b), .val (.int (3 : Int32)), .val (.ref mr), .unset] [(.ref mr), (.ref mr)])) X1 hx rfl rfl rfl (pc0 := 3) (pc' := 6) (same := true) rfl (hb hby d_jdk_65_method_120_code_3) rfl (decide_eq_true (congrArg Value.ref rfl)) (by decide) (by decide) ?_
    show Steps p.tables e below ((s₁.setVm vm1).setTop (mkF m 6 #[.val (.ref b), .val (.int (3 : Int32)), .val (.ref mr), .unset] [])) _
    refine XS.iloadN X1.here hx rfl (hb hby d_jdk_65_method_120_code_6) rfl ?_
    show Steps p.tables e below ((s₁.setVm vm1).setTop (mkF m 7 #[.val (.ref b), .val (.int (3 : Int32)), .val (.ref mr), .unset] [(.int (3 : Int32))])) _
    refine st2 _ ?_
    show Steps p.tables e below (T2.setTop (mkF m 10 #[.val (.ref b), .val (.int (3 : Int32)), .val (.ref mr), .unset] [(.ref b2)])) _
    refine XS.goto X2.here hx rfl (pc0 := 10) (pc' := 24) rfl (hb hby d_jdk_65_method_120_code_10) (by decide) (by decide) ?_
    show Steps p.tables e below (T2.setTop (mkF m 24 #[.val (.ref b), .val (.int (3 : Int32)), .val (.ref mr), .unset] [(.ref b2)])) _
    refine XS.astoreN X2.here hx rfl (hb hby d_jdk_65_method_120_code_24) rfl rfl (l' := #[.val (.ref b), .val (.int (3 : Int32)), .val (.ref mr), .val (.ref b2)]) rfl ?_
    show Steps p.tables e below (T2.setTop (mkF m 25 #[.val (.ref b), .val (.int (3 : Int32)), .val (.ref mr), .val (.ref b2)] [])) _
    refine XS.aloadN X2.here hx rfl (hb hby d_jdk_65_method_120_code_25) rfl rfl ?_
    show Steps p.tables e below (T2.setTop (mkF m 26 #[.val (.ref b), .val (.int (3 : Int32)), .val (.ref mr), .val (.ref b2)] [(.ref b)])) _
    refine XS.iconst X2.here hx rfl (hb hby d_jdk_65_method_120_code_26) ?_
    show Steps p.tables e below (T2.setTop (mkF m 27 #[.val (.ref b), .val (.int (3 : Int32)), .val (.ref mr), .val (.ref b2)] [(.int (0 : Int32)), (.ref b)])) _
    refine XS.aloadN X2.here hx rfl (hb hby d_jdk_65_method_120_code_27) rfl rfl ?_
    show Steps p.tables e below (T2.setTop (mkF m 28 #[.val (.ref b), .val (.int (3 : Int32)), .val (.ref mr), .val (.ref b2)] [(.ref b2), (.int (0 : Int32)), (.ref b)])) _
    refine XS.iconst X2.here hx rfl (hb hby d_jdk_65_method_120_code_28) ?_
    show Steps p.tables e below (T2.setTop (mkF m 29 #[.val (.ref b), .val (.int (3 : Int32)), .val (.ref mr), .val (.ref b2)] [(.int (0 : Int32)), (.ref b2), (.int (0 : Int32)), (.ref b)])) _
    refine XS.aloadN X2.here hx rfl (hb hby d_jdk_65_method_120_code_29) rfl rfl ?_
    show Steps p.tables e below (T2.setTop (mkF m 30 #[.val (.ref b), .val (.int (3 : Int32)), .val (.ref mr), .val (.ref b2)] [(.ref b), (.int (0 : Int32)), (.ref b2), (.int (0 : Int32)), (.ref b)])) _
    refine X2.arraylength hx (by rw [e2]; exact Ar5.1) (State.isArrayOf_alike hZ.alike Ar5.2.1) (g := (mkF m 30 #[.val (.ref b), .val (.int (3 : Int32)), .val (.ref mr), .val (.ref b2)] [(.ref b), (.int (0 : Int32)), (.ref b2), (.int (0 : Int32)), (.ref b)])) rfl rfl (hb hby d_jdk_65_method_120_code_30) _ ?_
    rw [len_of S5 M5]
    show Steps p.tables e below (T2.setTop (mkF m 31 #[.val (.ref b), .val (.int (3 : Int32)), .val (.ref mr), .val (.ref b2)] [(.int (10 : Int32)), (.int (0 : Int32)), (.ref b2), (.int (0 : Int32)), (.ref b)])) _
    refine XS.iloadN X2.here hx rfl (hb hby d_jdk_65_method_120_code_31) rfl ?_
    show Steps p.tables e below (T2.setTop (mkF m 32 #[.val (.ref b), .val (.int (3 : Int32)), .val (.ref mr), .val (.ref b2)] [(.int (3 : Int32)), (.int (10 : Int32)), (.int (0 : Int32)), (.ref b2), (.int (0 : Int32)), (.ref b)])) _
    refine st6 _ ?_
    show Steps p.tables e below (T6.setTop (mkF m 35 #[.val (.ref b), .val (.int (3 : Int32)), .val (.ref mr), .val (.ref b2)] [(.int (3 : Int32)), (.int (0 : Int32)), (.ref b2), (.int (0 : Int32)), (.ref b)])) _
    refine st10 _ ?_
    show Steps p.tables e below (T10.setTop (mkF m 38 #[.val (.ref b), .val (.int (3 : Int32)), .val (.ref mr), .val (.ref b2)] [])) _
    refine XS.aloadN X10.here hx rfl (hb hby d_jdk_65_method_120_code_38) rfl rfl ?_
    show Steps p.tables e below (T10.setTop (mkF m 39 #[.val (.ref b), .val (.int (3 : Int32)), .val (.ref mr), .val (.ref b2)] [(.ref b2)])) _
    exact retOut X10 hx Bd.returns rfl (Or.inr (Or.inr (Or.inr (Or.inr ⟨rfl, rfl, rfl⟩)))) (hb hby d_jdk_65_method_120_code_39) hretL
  · show Q_rmca3 Z b mr kk C sp h0 n0 _ T10.heap _
    rw [e10]
    exact ⟨_, _, rfl, N10, K11, Vc10⟩
def Q_rmcb3 (Z : State) (b : Addr) (kk : ClassId) (C : String) (sp : Addr) (mr : Addr) (h0 : Heap) (n0 : Nat) (v : Option Value) (h : Heap) (L : List Loc) : Prop := ∃ (b2 : Addr) (k2 : ClassId), v = some (.ref b2) ∧ Fr n0 L ∧ Keep h0 h [] ∧ Arv Z h b2 k2 (.object "java/lang/Object") (3 : Int32) [(.ref sp), (.ref sp), (.ref sp)] .null
theorem ef_rmcb3 (m : MethodId) (b : Addr) : entryFrame m #[(.ref b), (.int (3 : Int32))] 2 = mkF m 0 #[.val (.ref b), .val (.int (3 : Int32))] [] := by first | (simp [entryFrame, mkF, argsToLocals, Value.category]; done) | rfl
set_option maxRecDepth 65536 in
set_option maxHeartbeats 40000000 in
theorem rmcb3 (l : Launch) (Z : State) (a0 : Array Value) (hw : ∀ d ∈ tables_1, d.before a0 Z = true) (ws : List Jvm.Cond) (b : Addr) (kk : ClassId) (C : String) (sp : Addr) (mr : Addr) (h0 : Heap) (n0 : Nat) (O0 : Old Z n0 h0) (Eb : Exa Z h0 b "[Ljava/lang/Object;") (Ab : Arv Z h0 b kk (.object "java/lang/Object") (10 : Int32) [(.ref sp), (.ref sp), (.ref sp), .null, .null, .null, .null, .null, .null, .null] .null) (hM : MM Z "[Ljava/lang/Object;" mr) (Esp : Exa Z h0 sp C) (hcast : (Jvm.Cond.castable C "java/lang/Object").before a0 Z = true) :
    MetFree l (⟨"java/util/Arrays", "copyOf", "([Ljava/lang/Object;I)[Ljava/lang/Object;"⟩ : MethodName) (head1 (Jvm.Cond.code (⟨"java/util/Arrays", "copyOf", "([Ljava/lang/Object;I)[Ljava/lang/Object;"⟩ : MethodName) jdk_65_method_119_code 2 (some (.array (.object "java/lang/Object"))) :: ws) ({ frames := 2, cells := 1, slots := 3, locals := 75 } : Room)) (fun aa U => aa = #[(.ref b), (.int (3 : Int32))] ∧ Z.Warmed39 U.vm ∧ U.heap = h0) (fun _ _ _ _ _ => True) (fun _ U o U' => ∃ v L, o = .returned v ∧ Q_rmcb3 Z b kk C sp mr h0 n0 v U'.heap L ∧ FrameEnd U o U' L ({ frames := 2, cells := 1, slots := 3, locals := 75 } : Room).cells ({ frames := 2, cells := 1, slots := 3, locals := 75 } : Room).slots) := by
  refine MetFree.of_bodySF (plainFor_of_name pn13) hisR ?_
  intro p e s m args below meth c s₁ Bd hml0 hP hK
  obtain ⟨rfl, hZ, hh⟩ := hP
  have hx := Bd.exec
  have hby := Bd.bytes
  have hml : c.maxLocals = 2 := hml0
  have hown : s.vm.findClass "java/util/Arrays" = some m.cls := findClass_of_methodNamed Bd.named
  have hnm := (name_of_methodNamed Bd.named Bd.method).1
  have X0 : Stand p l e ({ frames := 2, cells := 1, slots := 3, locals := 75 } : Room) s m #[(.ref b), (.int (3 : Int32))] below meth c s₁ [] 0 0 := Stand.of_body Bd
  have e0 : s₁.heap = h0 := by rw [← hh, Bd.state]; rfl
  have N0 := Fr.nil n0
  have K0 : Keep h0 h0 [] := Keep.refl _ _
  have pre0 : ∀ tgt, Steps p.tables e below (s₁.setTop (mkF m 0 #[.val (.ref b), .val (.int (3 : Int32))] [])) tgt → Steps p.tables e below (s₁.setTop (entryFrame m #[(.ref b), (.int (3 : Int32))] 2)) tgt := fun tgt kgo => castTop (ef_rmcb3 m b) kgo
  obtain ⟨T1, X1, e1, st1⟩ := own_gcls X0 hx hZ hown (ow134 hw) (ow135 hw) (ow107 hw) (ow137 hw) (ow136 hw) (ow138 hw) e0 Eb hM (g := (mkF m 3 #[.val (.ref b), .val (.int (3 : Int32))] [(.ref b), (.int (3 : Int32)), (.ref b)])) rfl (by rw [hml]; rfl) rfl (hb hby d_jdk_65_method_119_code_3) (by decide) (W := 2) (by show 2 * 0 + _ ≤ _; exact Nat.le_of_eq rfl) (by decide)
  obtain ⟨_, _, ⟨T2, L2, k2, n2⟩, -, X2, ⟨Lc2, hQ2, l2, y2, z2⟩, st2⟩ := Jvm.LawKit.callS X1 hx (y := (⟨"java/util/Arrays", "copyOf", "([Ljava/lang/Object;ILjava/lang/Class;)[Ljava/lang/Object;"⟩ : MethodName)) hown (mvT hZ (ow140 hw)) (mvT hZ (ow141 hw)) (mvT hZ (ow132 hw)) (mvT hZ (ow142 hw)) (by decide) (backOf (W := 0) (rmca3 l Z a0 hw [] b mr kk C sp h0 n0 O0 Ab hM Esp hcast) hZ (ow142 hw) (ow132 hw) (by decide) (by decide)) (g := (mkF m 6 #[.val (.ref b), .val (.int (3 : Int32))] [(.ref mr), (.int (3 : Int32)), (.ref b)])) rfl (by rw [hml]; rfl) (argsL := [(.ref b), (.int (3 : Int32)), (.ref mr)]) (rest := []) (lenOf pd10 rfl) rfl (by show 2 * 0 + _ ≤ _; exact Nat.le_of_eq rfl) (hb hby d_jdk_65_method_119_code_6) (fun _ _ => ⟨rfl, e1, (by decide : 0 + 1 ≤ _), (by decide : 0 + 3 ≤ _)⟩)
  dsimp only [Pt.U, Pt.locs, Pt.cells, Pt.slots] at X2 l2 y2 z2 st2 hQ2
  subst l2 y2 z2
  obtain ⟨b22, k22, rfl, Nq2, kp2, Ac2⟩ := hQ2
  have N3 := Fr.app N0 Nq2
  have Ol4 := O0.keep kp2 all0
  have K4 := K0.trans kp2 all0
  obtain ⟨fs, hretL, hrun, hended, hW, hsame⟩ := X2.leave (v := some (.ref b22)) (fun h => by rw [Bd.returns] at h; cases h)
  refine ⟨_, _, pre0 _ ?_, hrun, hended, _, _, rfl, ?_, ⟨_, rfl⟩, hW, hsame.mono (by decide) (by decide)⟩
  · refine XS.aloadN X0.here hx rfl (hb hby d_jdk_65_method_119_code_0) rfl rfl ?_
    show Steps p.tables e below (s₁.setTop (mkF m 1 #[.val (.ref b), .val (.int (3 : Int32))] [(.ref b)])) _
    refine XS.iloadN X0.here hx rfl (hb hby d_jdk_65_method_119_code_1) rfl ?_
    show Steps p.tables e below (s₁.setTop (mkF m 2 #[.val (.ref b), .val (.int (3 : Int32))] [(.int (3 : Int32)), (.ref b)])) _
    refine XS.aloadN X0.here hx rfl (hb hby d_jdk_65_method_119_code_2) rfl rfl ?_
    show Steps p.tables e below (s₁.setTop (mkF m 3 #[.val (.ref b), .val (.int (3 : Int32))] [(.ref b), (.int (3 : Int32)), (.ref b)])) _
    refine st1 _ ?_
    show Steps p.tables e below (T1.setTop (mkF m 6 #[.val (.ref b), .val (.int (3 : Int32))] [(.ref mr), (.int (3 : Int32)), (.ref b)])) _
    refine st2 _ ?_
    show Steps p.tables e below (T2.setTop (mkF m 9 #[.val (.ref b), .val (.int (3 : Int32))] [(.ref b22)])) _
    exact retOut X2 hx Bd.returns rfl (Or.inr (Or.inr (Or.inr (Or.inr ⟨rfl, rfl, rfl⟩)))) (hb hby d_jdk_65_method_119_code_9) hretL
  · show Q_rmcb3 Z b kk C sp mr h0 n0 _ T2.heap _
    exact ⟨_, _, rfl, N3, K4, Ac2⟩
def Q_rmta3 (Z : State) (a : Addr) (b : Addr) (kk : ClassId) (C : String) (sp : Addr) (mr : Addr) (h0 : Heap) (n0 : Nat) (v : Option Value) (h : Heap) (L : List Loc) : Prop := ∃ (b2 : Addr) (k2 : ClassId), v = some (.ref b2) ∧ Fr n0 L ∧ Keep h0 h [] ∧ Arv Z h b2 k2 (.object "java/lang/Object") (3 : Int32) [(.ref sp), (.ref sp), (.ref sp)] .null
theorem ef_rmta3 (m : MethodId) (a : Addr) : entryFrame m #[(.ref a)] 1 = mkF m 0 #[.val (.ref a)] [] := by first | (simp [entryFrame, mkF, argsToLocals, Value.category]; done) | rfl
set_option maxRecDepth 65536 in
set_option maxHeartbeats 40000000 in
theorem rmta3 (l : Launch) (Z : State) (a0 : Array Value) (hw : ∀ d ∈ tables_1, d.before a0 Z = true) (ws : List Jvm.Cond) (a : Addr) (b : Addr) (kk : ClassId) (C : String) (sp : Addr) (mr : Addr) (h0 : Heap) (n0 : Nat) (O0 : Old Z n0 h0) (Fs : Fld Z h0 a "java/util/ArrayList" "size" "I" (.int (3 : Int32))) (Fe : Fld Z h0 a "java/util/ArrayList" "elementData" "[Ljava/lang/Object;" (.ref b)) (Eb : Exa Z h0 b "[Ljava/lang/Object;") (Ab : Arv Z h0 b kk (.object "java/lang/Object") (10 : Int32) [(.ref sp), (.ref sp), (.ref sp), .null, .null, .null, .null, .null, .null, .null] .null) (hM : MM Z "[Ljava/lang/Object;" mr) (Esp : Exa Z h0 sp C) (hcast : (Jvm.Cond.castable C "java/lang/Object").before a0 Z = true) :
    MetFree l (⟨"java/util/ArrayList", "toArray", "()[Ljava/lang/Object;"⟩ : MethodName) (head1 (Jvm.Cond.code (⟨"java/util/ArrayList", "toArray", "()[Ljava/lang/Object;"⟩ : MethodName) jdk_38_method_16_code 1 (some (.array (.object "java/lang/Object"))) :: ws) ({ frames := 3, cells := 1, slots := 3, locals := 88 } : Room)) (fun aa U => aa = #[(.ref a)] ∧ Z.Warmed39 U.vm ∧ U.heap = h0) (fun _ _ _ _ _ => True) (fun _ U o U' => ∃ v L, o = .returned v ∧ Q_rmta3 Z a b kk C sp mr h0 n0 v U'.heap L ∧ FrameEnd U o U' L ({ frames := 3, cells := 1, slots := 3, locals := 88 } : Room).cells ({ frames := 3, cells := 1, slots := 3, locals := 88 } : Room).slots) := by
  refine MetFree.of_bodySF (plainFor_of_name pn7) hisR ?_
  intro p e s m args below meth c s₁ Bd hml0 hP hK
  obtain ⟨rfl, hZ, hh⟩ := hP
  have hx := Bd.exec
  have hby := Bd.bytes
  have hml : c.maxLocals = 1 := hml0
  have hown : s.vm.findClass "java/util/ArrayList" = some m.cls := findClass_of_methodNamed Bd.named
  have hnm := (name_of_methodNamed Bd.named Bd.method).1
  have X0 : Stand p l e ({ frames := 3, cells := 1, slots := 3, locals := 88 } : Room) s m #[(.ref a)] below meth c s₁ [] 0 0 := Stand.of_body Bd
  have e0 : s₁.heap = h0 := by rw [← hh, Bd.state]; rfl
  have N0 := Fr.nil n0
  have K0 : Keep h0 h0 [] := Keep.refl _ _
  have pre0 : ∀ tgt, Steps p.tables e below (s₁.setTop (mkF m 0 #[.val (.ref a)] [])) tgt → Steps p.tables e below (s₁.setTop (entryFrame m #[(.ref a)] 1)) tgt := fun tgt kgo => castTop (ef_rmta3 m a) kgo
  obtain ⟨T1, X1, e1, st1⟩ := getF X0 hx hZ hown (host := "") (Or.inl (ow55 hw)) Via.refl e0 Fe (g := (mkF m 1 #[.val (.ref a)] [(.ref a)])) rfl rfl (hb hby d_jdk_38_method_16_code_1)
  obtain ⟨T2, X2, e2, st2⟩ := getF X1 hx hZ hown (host := "") (Or.inl (ow64 hw)) Via.refl e1 Fs (g := (mkF m 5 #[.val (.ref a)] [(.ref a), (.ref b)])) rfl rfl (hb hby d_jdk_38_method_16_code_5)
  obtain ⟨_, _, ⟨T3, L3, k3, n3⟩, -, X3, ⟨Lc3, hQ3, l3, y3, z3⟩, st3⟩ := Jvm.LawKit.callS X2 hx (y := (⟨"java/util/Arrays", "copyOf", "([Ljava/lang/Object;I)[Ljava/lang/Object;"⟩ : MethodName)) hown (mvT hZ (ow130 hw)) (mvT hZ (ow131 hw)) (mvT hZ (ow132 hw)) (mvT hZ (ow133 hw)) (by decide) (backOf (W := 0) (rmcb3 l Z a0 hw [] b kk C sp mr h0 n0 O0 Eb Ab hM Esp hcast) hZ (ow133 hw) (ow132 hw) (by decide) (by decide)) (g := (mkF m 8 #[.val (.ref a)] [(.int (3 : Int32)), (.ref b)])) rfl (by rw [hml]; rfl) (argsL := [(.ref b), (.int (3 : Int32))]) (rest := []) (lenOf pd11 rfl) rfl (by show 2 * 0 + _ ≤ _; exact Nat.le_of_eq rfl) (hb hby d_jdk_38_method_16_code_8) (fun _ _ => ⟨rfl, e2, (by decide : 0 + 1 ≤ _), (by decide : 0 + 3 ≤ _)⟩)
  dsimp only [Pt.U, Pt.locs, Pt.cells, Pt.slots] at X3 l3 y3 z3 st3 hQ3
  subst l3 y3 z3
  obtain ⟨b23, k23, rfl, Nq3, kp3, Ac3⟩ := hQ3
  have N4 := Fr.app N0 Nq3
  have Ol5 := O0.keep kp3 all0
  have K5 := K0.trans kp3 all0
  obtain ⟨fs, hretL, hrun, hended, hW, hsame⟩ := X3.leave (v := some (.ref b23)) (fun h => by rw [Bd.returns] at h; cases h)
  refine ⟨_, _, pre0 _ ?_, hrun, hended, _, _, rfl, ?_, ⟨_, rfl⟩, hW, hsame.mono (by decide) (by decide)⟩
  · refine XS.aloadN X0.here hx rfl (hb hby d_jdk_38_method_16_code_0) rfl rfl ?_
    show Steps p.tables e below (s₁.setTop (mkF m 1 #[.val (.ref a)] [(.ref a)])) _
    refine st1 _ ?_
    show Steps p.tables e below (T1.setTop (mkF m 4 #[.val (.ref a)] [(.ref b)])) _
    refine XS.aloadN X1.here hx rfl (hb hby d_jdk_38_method_16_code_4) rfl rfl ?_
    show Steps p.tables e below (T1.setTop (mkF m 5 #[.val (.ref a)] [(.ref a), (.ref b)])) _
    refine st2 _ ?_
    show Steps p.tables e below (T2.setTop (mkF m 8 #[.val (.ref a)] [(.int (3 : Int32)), (.ref b)])) _
    refine st3 _ ?_
    show Steps p.tables e below (T3.setTop (mkF m 11 #[.val (.ref a)] [(.ref b23)])) _
    exact retOut X3 hx Bd.returns rfl (Or.inr (Or.inr (Or.inr (Or.inr ⟨rfl, rfl, rfl⟩)))) (hb hby d_jdk_38_method_16_code_11) hretL
  · show Q_rmta3 Z a b kk C sp mr h0 n0 _ T3.heap _
    exact ⟨_, _, rfl, N4, K5, Ac3⟩
theorem d_jdk_56_method_3_code_0 : decode jdk_56_method_3_code 0 = .ok (.aload_n 0, 1) := by decide +kernel
theorem d_jdk_56_method_3_code_1 : decode jdk_56_method_3_code 1 = .ok (.instanceof 10, 3) := by decide +kernel
theorem d_jdk_56_method_3_code_4 : decode jdk_56_method_3_code 4 = .ok (.ifCond .ne 22, 3) := by decide +kernel
theorem d_jdk_56_method_3_code_7 : decode jdk_56_method_3_code 7 = .ok (.aload_n 0, 1) := by decide +kernel
theorem d_jdk_56_method_3_code_8 : decode jdk_56_method_3_code 8 = .ok (.instanceof 12, 3) := by decide +kernel
theorem d_jdk_56_method_3_code_11 : decode jdk_56_method_3_code 11 = .ok (.ifCond .eq 20, 3) := by decide +kernel
theorem d_jdk_56_method_3_code_31 : decode jdk_56_method_3_code 31 = .ok (.aload_n 0, 1) := by decide +kernel
theorem d_jdk_56_method_3_code_32 : decode jdk_56_method_3_code 32 = .ok (.invokeinterface 20 1, 5) := by decide +kernel
theorem d_jdk_56_method_3_code_37 : decode jdk_56_method_3_code 37 = .ok (.ifCond .eq 7, 3) := by decide +kernel
theorem d_jdk_56_method_3_code_40 : decode jdk_56_method_3_code 40 = .ok (.invokestatic 26, 3) := by decide +kernel
theorem d_jdk_56_method_3_code_43 : decode jdk_56_method_3_code 43 = .ok (.areturn, 1) := by decide +kernel
theorem d_jdk_56_method_3_code_44 : decode jdk_56_method_3_code 44 = .ok (.aload_n 0, 1) := by decide +kernel
theorem d_jdk_56_method_3_code_45 : decode jdk_56_method_3_code 45 = .ok (.invokeinterface 30 1, 5) := by decide +kernel
theorem d_jdk_56_method_3_code_50 : decode jdk_56_method_3_code 50 = .ok (.invokestatic 34, 3) := by decide +kernel
theorem d_jdk_56_method_3_code_53 : decode jdk_56_method_3_code 53 = .ok (.areturn, 1) := by decide +kernel
def Q_rmlcp (Z : State) (a : Addr) (z : Int32) (el : Addr) (tel : Addr) (kel : ClassId) (em : Addr) (mr : Addr) (h0 : Heap) (n0 : Nat) (v : Option Value) (h : Heap) (L : List Loc) : Prop := ∃ (r : Addr), v = some (.ref r) ∧ Fr n0 L ∧ Keep h0 h [] ∧ LE Z h r z
theorem ef_rmlcp (m : MethodId) (a : Addr) : entryFrame m #[(.ref a)] 2 = mkF m 0 #[.val (.ref a), .unset] [] := by first | (simp [entryFrame, mkF, argsToLocals, Value.category]; done) | rfl
set_option maxRecDepth 65536 in
set_option maxHeartbeats 40000000 in
theorem rmlcp (l : Launch) (Z : State) (a0 : Array Value) (hw : ∀ d ∈ tables_1, d.before a0 Z = true) (ws : List Jvm.Cond) (a : Addr) (z : Int32) (el : Addr) (tel : Addr) (kel : ClassId) (em : Addr) (mr : Addr) (h0 : Heap) (n0 : Nat) (O0 : Old Z n0 h0) (hLK : LK Z a0 h0 a z) (Sel : Sta Z Z.heap "java/util/ImmutableCollections" "EMPTY_LIST" "Ljava/util/ImmutableCollections$ListN;" (.ref el)) (Sem : Sta Z Z.heap "java/util/ImmutableCollections" "EMPTY" "Ljava/lang/Object;" (.ref em)) (hM : MM Z "[Ljava/lang/Object;" mr) (Eel : Exa Z Z.heap el "java/util/ImmutableCollections$ListN") (Fel : Fld Z Z.heap el "java/util/ImmutableCollections$ListN" "elements" "[Ljava/lang/Object;" (.ref tel)) (Ael : Arv Z Z.heap tel kel (.object "java/lang/Object") (0 : Int32) [] .null) :
    MetFree l (⟨"java/util/ImmutableCollections", "listCopy", "(Ljava/util/Collection;)Ljava/util/List;"⟩ : MethodName) (head1 (Jvm.Cond.code (⟨"java/util/ImmutableCollections", "listCopy", "(Ljava/util/Collection;)Ljava/util/List;"⟩ : MethodName) jdk_56_method_3_code 2 (some (.object "java/util/List")) :: ws) ({ frames := 7, cells := 3, slots := 8, locals := 100 } : Room)) (fun aa U => aa = #[(.ref a)] ∧ Z.Warmed39 U.vm ∧ U.heap = h0) (fun _ _ _ _ _ => True) (fun _ U o U' => ∃ v L, o = .returned v ∧ Q_rmlcp Z a z el tel kel em mr h0 n0 v U'.heap L ∧ FrameEnd U o U' L ({ frames := 7, cells := 3, slots := 8, locals := 100 } : Room).cells ({ frames := 7, cells := 3, slots := 8, locals := 100 } : Room).slots) := by
  refine MetFree.of_bodySF (plainFor_of_name pn11) hisR ?_
  intro p e s m args below meth c s₁ Bd hml0 hP hK
  obtain ⟨rfl, hZ, hh⟩ := hP
  have hx := Bd.exec
  have hby := Bd.bytes
  have hml : c.maxLocals = 2 := hml0
  have hown : s.vm.findClass "java/util/ImmutableCollections" = some m.cls := findClass_of_methodNamed Bd.named
  have hnm := (name_of_methodNamed Bd.named Bd.method).1
  have X0 : Stand p l e ({ frames := 7, cells := 3, slots := 8, locals := 100 } : Room) s m #[(.ref a)] below meth c s₁ [] 0 0 := Stand.of_body Bd
  have e0 : s₁.heap = h0 := by rw [← hh, Bd.state]; rfl
  have N0 := Fr.nil n0
  have K0 : Keep h0 h0 [] := Keep.refl _ _
  have pre0 : ∀ tgt, Steps p.tables e below (s₁.setTop (mkF m 0 #[.val (.ref a), .unset] [])) tgt → Steps p.tables e below (s₁.setTop (entryFrame m #[(.ref a)] 2)) tgt := fun tgt kgo => castTop (ef_rmlcp m a) kgo
  rcases hLK with ⟨hz, Ea, Fs⟩ | ⟨sp, C, b, kk, hz, Ea, Fs, Fe, Ab, Eb, Esp, hcast⟩ | ⟨sp, C, b, kk, hz, Ea, Fs, Fe, Ab, Eb, Esp, hcast⟩ | ⟨sp, C, b, kk, hz, Ea, Fs, Fe, Ab, Eb, Esp, hcast⟩
  · obtain ⟨T1, X1, e1, st1⟩ := instNo X0 hx hZ hown (ow103 hw) e0 Ea (own_ns12 hw) (g := (mkF m 1 #[.val (.ref a), .unset] [(.ref a)])) rfl rfl (hb hby d_jdk_56_method_3_code_1)
    obtain ⟨T2, X2, e2, st2⟩ := instNo X1 hx hZ hown (ow108 hw) e1 Ea (own_nsN hw) (g := (mkF m 8 #[.val (.ref a), .unset] [(.ref a)])) rfl rfl (hb hby d_jdk_56_method_3_code_8)
    obtain ⟨cq3, kq3, q3a, q3b, q3c⟩ := isOf hZ e2 Ea
    obtain ⟨_, _, ⟨T3, L3, k3, n3⟩, -, X3, ⟨Lc3, hQ3, l3, y3, z3⟩, st3⟩ := X2.interfaceBack hx (xi := (⟨"java/util/Collection", "isEmpty", "()Z"⟩ : MethodName)) (y := (⟨"java/util/ArrayList", "isEmpty", "()Z"⟩ : MethodName)) hown (mvT hZ (ow109 hw)) (mvT hZ (ow110 hw)) (mvT hZ (ow111 hw)) (mvT hZ (ow112 hw)) (mvT hZ (ow113 hw)) (mvT hZ (ow114 hw)) (mvT hZ (ow115 hw)) (mvT hZ (ow116 hw)) (by decide) (backOf (W := 0) (rmemp l Z a0 hw [] a (0 : Int32) h0 n0 O0 Fs) hZ (ow117 hw) (ow35 hw) (by decide) (by decide)) q3a q3b q3c (g := (mkF m 32 #[.val (.ref a), .unset] [(.ref a)])) rfl (by rw [hml]; rfl) (Steps.refl _) (argsL := []) (rest := []) (lenOf pd12 rfl) rfl (by show 2 * 0 + _ ≤ _; exact Nat.le_of_eq rfl) (hb hby d_jdk_56_method_3_code_32) (fun _ _ => ⟨rfl, e2, (by decide : 0 + 0 ≤ _), (by decide : 0 + 0 ≤ _)⟩)
    dsimp only [Pt.U, Pt.locs, Pt.cells, Pt.slots] at X3 l3 y3 z3 st3 hQ3
    subst l3 y3 z3
    obtain ⟨rfl, Nq3, eq3⟩ := hQ3
    have N4 := Fr.app N0 Nq3
    obtain ⟨_, _, ⟨T5, L5, k5, n5⟩, -, X5, ⟨Lc5, hQ5, l5, y5, z5⟩, st5⟩ := Jvm.LawKit.callS X3 hx (y := (⟨"java/util/List", "of", "()Ljava/util/List;"⟩ : MethodName)) hown (mvT hZ (ow118 hw)) (mvT hZ (ow119 hw)) (mvT hZ (ow97 hw)) (mvT hZ (ow120 hw)) (by decide) (backOf (W := 0) (rmof0 l Z a0 hw []  el h0 n0 O0 Sel) hZ (ow120 hw) (ow97 hw) (by decide) (by decide)) (g := (mkF m 40 #[.val (.ref a), .unset] [])) rfl (by rw [hml]; rfl) (argsL := []) (rest := []) (lenOf pd13 rfl) rfl (by show 2 * 0 + _ ≤ _; exact Nat.le_of_eq rfl) (hb hby d_jdk_56_method_3_code_40) (fun _ _ => ⟨rfl, eq3, (by decide : 0 + 0 ≤ _), (by decide : 0 + 0 ≤ _)⟩)
    dsimp only [Pt.U, Pt.locs, Pt.cells, Pt.slots] at X5 l5 y5 z5 st5 hQ5
    subst l5 y5 z5
    obtain ⟨rfl, Nq5, eq5⟩ := hQ5
    have N6 := Fr.app N4 Nq5
    obtain ⟨fs, hretL, hrun, hended, hW, hsame⟩ := X5.leave (v := some (.ref el)) (fun h => by rw [Bd.returns] at h; cases h)
    refine ⟨_, _, pre0 _ ?_, hrun, hended, _, _, rfl, ?_, ⟨_, rfl⟩, hW, hsame.mono (by decide) (by decide)⟩
    · refine XS.aloadN X0.here hx rfl (hb hby d_jdk_56_method_3_code_0) rfl rfl ?_
      show Steps p.tables e below (s₁.setTop (mkF m 1 #[.val (.ref a), .unset] [(.ref a)])) _
      refine st1 _ ?_
      show Steps p.tables e below (T1.setTop (mkF m 4 #[.val (.ref a), .unset] [(.int (0 : Int32))])) _
      refine XS.ifNo X1.here hx rfl (hb hby d_jdk_56_method_3_code_4) rfl ((if0 _ _).trans (teq (by decide : (0 : Int32) = (0 : Int32))).2) ?_
      show Steps p.tables e below (T1.setTop (mkF m 7 #[.val (.ref a), .unset] [])) _
      refine XS.aloadN X1.here hx rfl (hb hby d_jdk_56_method_3_code_7) rfl rfl ?_
      show Steps p.tables e below (T1.setTop (mkF m 8 #[.val (.ref a), .unset] [(.ref a)])) _
      refine st2 _ ?_
      show Steps p.tables e below (T2.setTop (mkF m 11 #[.val (.ref a), .unset] [(.int (0 : Int32))])) _
      refine XS.ifYes X2.here hx rfl (pc0 := 11) (pc' := 31) rfl (hb hby d_jdk_56_method_3_code_11) rfl ((if0 _ _).trans (teq (by decide : (0 : Int32) = (0 : Int32))).1) (by decide) (by decide) ?_
      show Steps p.tables e below (T2.setTop (mkF m 31 #[.val (.ref a), .unset] [])) _
      refine XS.aloadN X2.here hx rfl (hb hby d_jdk_56_method_3_code_31) rfl rfl ?_
      show Steps p.tables e below (T2.setTop (mkF m 32 #[.val (.ref a), .unset] [(.ref a)])) _
      refine st3.trans ?_
      show Steps p.tables e below (T3.setTop (mkF m 37 #[.val (.ref a), .unset] [(.int (1 : Int32))])) _
      refine XS.ifNo X3.here hx rfl (hb hby d_jdk_56_method_3_code_37) rfl ((if0 _ _).trans (feq (by decide : ¬ ((1 : Int32) = (0 : Int32)))).1) ?_
      show Steps p.tables e below (T3.setTop (mkF m 40 #[.val (.ref a), .unset] [])) _
      refine st5 _ ?_
      show Steps p.tables e below (T5.setTop (mkF m 43 #[.val (.ref a), .unset] [(.ref el)])) _
      exact retOut X5 hx Bd.returns rfl (Or.inr (Or.inr (Or.inr (Or.inr ⟨rfl, rfl, rfl⟩)))) (hb hby d_jdk_56_method_3_code_43) hretL
    · show Q_rmlcp Z a z el tel kel em mr h0 n0 _ T5.heap _
      rw [eq5]
      exact ⟨_, rfl, N6, K0, Or.inr ⟨_, _, _, _, Eel.ext O0.2, Fel.ext O0.2, Ael.ext O0.2, by rw [hz]; rfl⟩⟩
  · obtain ⟨T7, X7, e7, st7⟩ := instNo X0 hx hZ hown (ow103 hw) e0 Ea (own_ns12 hw) (g := (mkF m 1 #[.val (.ref a), .unset] [(.ref a)])) rfl rfl (hb hby d_jdk_56_method_3_code_1)
    obtain ⟨T8, X8, e8, st8⟩ := instNo X7 hx hZ hown (ow108 hw) e7 Ea (own_nsN hw) (g := (mkF m 8 #[.val (.ref a), .unset] [(.ref a)])) rfl rfl (hb hby d_jdk_56_method_3_code_8)
    obtain ⟨cq9, kq9, q9a, q9b, q9c⟩ := isOf hZ e8 Ea
    obtain ⟨_, _, ⟨T9, L9, k9, n9⟩, -, X9, ⟨Lc9, hQ9, l9, y9, z9⟩, st9⟩ := X8.interfaceBack hx (xi := (⟨"java/util/Collection", "isEmpty", "()Z"⟩ : MethodName)) (y := (⟨"java/util/ArrayList", "isEmpty", "()Z"⟩ : MethodName)) hown (mvT hZ (ow109 hw)) (mvT hZ (ow110 hw)) (mvT hZ (ow111 hw)) (mvT hZ (ow112 hw)) (mvT hZ (ow113 hw)) (mvT hZ (ow114 hw)) (mvT hZ (ow115 hw)) (mvT hZ (ow116 hw)) (by decide) (backOf (W := 0) (rmemp l Z a0 hw [] a (1 : Int32) h0 n0 O0 Fs) hZ (ow117 hw) (ow35 hw) (by decide) (by decide)) q9a q9b q9c (g := (mkF m 32 #[.val (.ref a), .unset] [(.ref a)])) rfl (by rw [hml]; rfl) (Steps.refl _) (argsL := []) (rest := []) (lenOf pd12 rfl) rfl (by show 2 * 0 + _ ≤ _; exact Nat.le_of_eq rfl) (hb hby d_jdk_56_method_3_code_32) (fun _ _ => ⟨rfl, e8, (by decide : 0 + 0 ≤ _), (by decide : 0 + 0 ≤ _)⟩)
    dsimp only [Pt.U, Pt.locs, Pt.cells, Pt.slots] at X9 l9 y9 z9 st9 hQ9
    subst l9 y9 z9
    obtain ⟨rfl, Nq9, eq9⟩ := hQ9
    have N10 := Fr.app N0 Nq9
    obtain ⟨cq11, kq11, q11a, q11b, q11c⟩ := isOf hZ eq9 Ea
    obtain ⟨_, _, ⟨T11, L11, k11, n11⟩, -, X11, ⟨Lc11, hQ11, l11, y11, z11⟩, st11⟩ := X9.interfaceBack hx (xi := (⟨"java/util/Collection", "toArray", "()[Ljava/lang/Object;"⟩ : MethodName)) (y := (⟨"java/util/ArrayList", "toArray", "()[Ljava/lang/Object;"⟩ : MethodName)) hown (mvT hZ (ow122 hw)) (mvT hZ (ow123 hw)) (mvT hZ (ow124 hw)) (mvT hZ (ow125 hw)) (mvT hZ (ow126 hw)) (mvT hZ (ow127 hw)) (mvT hZ (ow128 hw)) (mvT hZ (ow116 hw)) (by decide) (backOf (W := 0) (rmta1 l Z a0 hw [] a b kk C sp mr h0 n0 O0 Fs Fe Eb Ab hM Esp hcast) hZ (ow129 hw) (ow35 hw) (by decide) (by decide)) q11a q11b q11c (g := (mkF m 45 #[.val (.ref a), .unset] [(.ref a)])) rfl (by rw [hml]; rfl) (Steps.refl _) (argsL := []) (rest := []) (lenOf pd3 rfl) rfl (by show 2 * 0 + _ ≤ _; exact Nat.le_of_eq rfl) (hb hby d_jdk_56_method_3_code_45) (fun _ _ => ⟨rfl, eq9, (by decide : 0 + 1 ≤ _), (by decide : 0 + 1 ≤ _)⟩)
    dsimp only [Pt.U, Pt.locs, Pt.cells, Pt.slots] at X11 l11 y11 z11 st11 hQ11
    subst l11 y11 z11
    obtain ⟨b211, k211, rfl, Nq11, kp11, Ac11⟩ := hQ11
    have N12 := Fr.app N10 Nq11
    have Ol13 := O0.keep kp11 all0
    have K13 := K0.trans kp11 all0
    have f14 := (Esp.keep kp11)
    obtain ⟨_, _, ⟨T15, L15, k15, n15⟩, -, X15, ⟨Lc15, hQ15, l15, y15, z15⟩, st15⟩ := Jvm.LawKit.callS X11 hx (y := (⟨"java/util/List", "of", "([Ljava/lang/Object;)Ljava/util/List;"⟩ : MethodName)) hown (mvT hZ (ow152 hw)) (mvT hZ (ow153 hw)) (mvT hZ (ow97 hw)) (mvT hZ (ow154 hw)) (by decide) (backOf (W := 0) (rmof1 l Z a0 hw [] b211 k211 C sp em T11.heap n0 Ol13 Ac11 f14 hcast Sem) hZ (ow154 hw) (ow97 hw) (by decide) (by decide)) (g := (mkF m 50 #[.val (.ref a), .unset] [(.ref b211)])) rfl (by rw [hml]; rfl) (argsL := [(.ref b211)]) (rest := []) (lenOf pd9 rfl) rfl (by show 2 * 0 + _ ≤ _; exact Nat.le_of_eq rfl) (hb hby d_jdk_56_method_3_code_50) (fun _ _ => ⟨rfl, rfl, (by decide : 1 + 1 ≤ _), (by decide : 1 + 2 ≤ _)⟩)
    dsimp only [Pt.U, Pt.locs, Pt.cells, Pt.slots] at X15 l15 y15 z15 st15 hQ15
    subst l15 y15 z15
    obtain ⟨r15, rfl, Nq15, kp15, Er15⟩ := hQ15
    have N16 := Fr.app N12 Nq15
    have Ol17 := Ol13.keep kp15 all0
    have K17 := K13.trans kp15 all0
    obtain ⟨fs, hretL, hrun, hended, hW, hsame⟩ := X15.leave (v := some (.ref r15)) (fun h => by rw [Bd.returns] at h; cases h)
    refine ⟨_, _, pre0 _ ?_, hrun, hended, _, _, rfl, ?_, ⟨_, rfl⟩, hW, hsame.mono (by decide) (by decide)⟩
    · refine XS.aloadN X0.here hx rfl (hb hby d_jdk_56_method_3_code_0) rfl rfl ?_
      show Steps p.tables e below (s₁.setTop (mkF m 1 #[.val (.ref a), .unset] [(.ref a)])) _
      refine st7 _ ?_
      show Steps p.tables e below (T7.setTop (mkF m 4 #[.val (.ref a), .unset] [(.int (0 : Int32))])) _
      refine XS.ifNo X7.here hx rfl (hb hby d_jdk_56_method_3_code_4) rfl ((if0 _ _).trans (teq (by decide : (0 : Int32) = (0 : Int32))).2) ?_
      show Steps p.tables e below (T7.setTop (mkF m 7 #[.val (.ref a), .unset] [])) _
      refine XS.aloadN X7.here hx rfl (hb hby d_jdk_56_method_3_code_7) rfl rfl ?_
      show Steps p.tables e below (T7.setTop (mkF m 8 #[.val (.ref a), .unset] [(.ref a)])) _
      refine st8 _ ?_
      show Steps p.tables e below (T8.setTop (mkF m 11 #[.val (.ref a), .unset] [(.int (0 : Int32))])) _
      refine XS.ifYes X8.here hx rfl (pc0 := 11) (pc' := 31) rfl (hb hby d_jdk_56_method_3_code_11) rfl ((if0 _ _).trans (teq (by decide : (0 : Int32) = (0 : Int32))).1) (by decide) (by decide) ?_
      show Steps p.tables e below (T8.setTop (mkF m 31 #[.val (.ref a), .unset] [])) _
      refine XS.aloadN X8.here hx rfl (hb hby d_jdk_56_method_3_code_31) rfl rfl ?_
      show Steps p.tables e below (T8.setTop (mkF m 32 #[.val (.ref a), .unset] [(.ref a)])) _
      refine st9.trans ?_
      show Steps p.tables e below (T9.setTop (mkF m 37 #[.val (.ref a), .unset] [(.int (0 : Int32))])) _
      refine XS.ifYes X9.here hx rfl (pc0 := 37) (pc' := 44) rfl (hb hby d_jdk_56_method_3_code_37) rfl ((if0 _ _).trans (teq (by decide : (0 : Int32) = (0 : Int32))).1) (by decide) (by decide) ?_
      show Steps p.tables e below (T9.setTop (mkF m 44 #[.val (.ref a), .unset] [])) _
      refine XS.aloadN X9.here hx rfl (hb hby d_jdk_56_method_3_code_44) rfl rfl ?_
      show Steps p.tables e below (T9.setTop (mkF m 45 #[.val (.ref a), .unset] [(.ref a)])) _
      refine st11.trans ?_
      show Steps p.tables e below (T11.setTop (mkF m 50 #[.val (.ref a), .unset] [(.ref b211)])) _
      refine st15 _ ?_
      show Steps p.tables e below (T15.setTop (mkF m 53 #[.val (.ref a), .unset] [(.ref r15)])) _
      exact retOut X15 hx Bd.returns rfl (Or.inr (Or.inr (Or.inr (Or.inr ⟨rfl, rfl, rfl⟩)))) (hb hby d_jdk_56_method_3_code_53) hretL
    · show Q_rmlcp Z a z el tel kel em mr h0 n0 _ T15.heap _
      exact ⟨_, rfl, N16, K17, Or.inl ⟨Er15, hz⟩⟩
  · obtain ⟨T18, X18, e18, st18⟩ := instNo X0 hx hZ hown (ow103 hw) e0 Ea (own_ns12 hw) (g := (mkF m 1 #[.val (.ref a), .unset] [(.ref a)])) rfl rfl (hb hby d_jdk_56_method_3_code_1)
    obtain ⟨T19, X19, e19, st19⟩ := instNo X18 hx hZ hown (ow108 hw) e18 Ea (own_nsN hw) (g := (mkF m 8 #[.val (.ref a), .unset] [(.ref a)])) rfl rfl (hb hby d_jdk_56_method_3_code_8)
    obtain ⟨cq20, kq20, q20a, q20b, q20c⟩ := isOf hZ e19 Ea
    obtain ⟨_, _, ⟨T20, L20, k20, n20⟩, -, X20, ⟨Lc20, hQ20, l20, y20, z20⟩, st20⟩ := X19.interfaceBack hx (xi := (⟨"java/util/Collection", "isEmpty", "()Z"⟩ : MethodName)) (y := (⟨"java/util/ArrayList", "isEmpty", "()Z"⟩ : MethodName)) hown (mvT hZ (ow109 hw)) (mvT hZ (ow110 hw)) (mvT hZ (ow111 hw)) (mvT hZ (ow112 hw)) (mvT hZ (ow113 hw)) (mvT hZ (ow114 hw)) (mvT hZ (ow115 hw)) (mvT hZ (ow116 hw)) (by decide) (backOf (W := 0) (rmemp l Z a0 hw [] a (2 : Int32) h0 n0 O0 Fs) hZ (ow117 hw) (ow35 hw) (by decide) (by decide)) q20a q20b q20c (g := (mkF m 32 #[.val (.ref a), .unset] [(.ref a)])) rfl (by rw [hml]; rfl) (Steps.refl _) (argsL := []) (rest := []) (lenOf pd12 rfl) rfl (by show 2 * 0 + _ ≤ _; exact Nat.le_of_eq rfl) (hb hby d_jdk_56_method_3_code_32) (fun _ _ => ⟨rfl, e19, (by decide : 0 + 0 ≤ _), (by decide : 0 + 0 ≤ _)⟩)
    dsimp only [Pt.U, Pt.locs, Pt.cells, Pt.slots] at X20 l20 y20 z20 st20 hQ20
    subst l20 y20 z20
    obtain ⟨rfl, Nq20, eq20⟩ := hQ20
    have N21 := Fr.app N0 Nq20
    obtain ⟨cq22, kq22, q22a, q22b, q22c⟩ := isOf hZ eq20 Ea
    obtain ⟨_, _, ⟨T22, L22, k22, n22⟩, -, X22, ⟨Lc22, hQ22, l22, y22, z22⟩, st22⟩ := X20.interfaceBack hx (xi := (⟨"java/util/Collection", "toArray", "()[Ljava/lang/Object;"⟩ : MethodName)) (y := (⟨"java/util/ArrayList", "toArray", "()[Ljava/lang/Object;"⟩ : MethodName)) hown (mvT hZ (ow122 hw)) (mvT hZ (ow123 hw)) (mvT hZ (ow124 hw)) (mvT hZ (ow125 hw)) (mvT hZ (ow126 hw)) (mvT hZ (ow127 hw)) (mvT hZ (ow128 hw)) (mvT hZ (ow116 hw)) (by decide) (backOf (W := 0) (rmta2 l Z a0 hw [] a b kk C sp mr h0 n0 O0 Fs Fe Eb Ab hM Esp hcast) hZ (ow129 hw) (ow35 hw) (by decide) (by decide)) q22a q22b q22c (g := (mkF m 45 #[.val (.ref a), .unset] [(.ref a)])) rfl (by rw [hml]; rfl) (Steps.refl _) (argsL := []) (rest := []) (lenOf pd3 rfl) rfl (by show 2 * 0 + _ ≤ _; exact Nat.le_of_eq rfl) (hb hby d_jdk_56_method_3_code_45) (fun _ _ => ⟨rfl, eq20, (by decide : 0 + 1 ≤ _), (by decide : 0 + 2 ≤ _)⟩)
    dsimp only [Pt.U, Pt.locs, Pt.cells, Pt.slots] at X22 l22 y22 z22 st22 hQ22
    subst l22 y22 z22
    obtain ⟨b222, k222, rfl, Nq22, kp22, Ac22⟩ := hQ22
    have N23 := Fr.app N21 Nq22
    have Ol24 := O0.keep kp22 all0
    have K24 := K0.trans kp22 all0
    have f25 := (Esp.keep kp22)
    obtain ⟨_, _, ⟨T26, L26, k26, n26⟩, -, X26, ⟨Lc26, hQ26, l26, y26, z26⟩, st26⟩ := Jvm.LawKit.callS X22 hx (y := (⟨"java/util/List", "of", "([Ljava/lang/Object;)Ljava/util/List;"⟩ : MethodName)) hown (mvT hZ (ow152 hw)) (mvT hZ (ow153 hw)) (mvT hZ (ow97 hw)) (mvT hZ (ow154 hw)) (by decide) (backOf (W := 0) (rmof2 l Z a0 hw [] b222 k222 C sp T22.heap n0 Ol24 Ac22 f25 hcast) hZ (ow154 hw) (ow97 hw) (by decide) (by decide)) (g := (mkF m 50 #[.val (.ref a), .unset] [(.ref b222)])) rfl (by rw [hml]; rfl) (argsL := [(.ref b222)]) (rest := []) (lenOf pd9 rfl) rfl (by show 2 * 0 + _ ≤ _; exact Nat.le_of_eq rfl) (hb hby d_jdk_56_method_3_code_50) (fun _ _ => ⟨rfl, rfl, (by decide : 1 + 1 ≤ _), (by decide : 2 + 2 ≤ _)⟩)
    dsimp only [Pt.U, Pt.locs, Pt.cells, Pt.slots] at X26 l26 y26 z26 st26 hQ26
    subst l26 y26 z26
    obtain ⟨r26, rfl, Nq26, kp26, Er26⟩ := hQ26
    have N27 := Fr.app N23 Nq26
    have Ol28 := Ol24.keep kp26 all0
    have K28 := K24.trans kp26 all0
    obtain ⟨fs, hretL, hrun, hended, hW, hsame⟩ := X26.leave (v := some (.ref r26)) (fun h => by rw [Bd.returns] at h; cases h)
    refine ⟨_, _, pre0 _ ?_, hrun, hended, _, _, rfl, ?_, ⟨_, rfl⟩, hW, hsame.mono (by decide) (by decide)⟩
    · refine XS.aloadN X0.here hx rfl (hb hby d_jdk_56_method_3_code_0) rfl rfl ?_
      show Steps p.tables e below (s₁.setTop (mkF m 1 #[.val (.ref a), .unset] [(.ref a)])) _
      refine st18 _ ?_
      show Steps p.tables e below (T18.setTop (mkF m 4 #[.val (.ref a), .unset] [(.int (0 : Int32))])) _
      refine XS.ifNo X18.here hx rfl (hb hby d_jdk_56_method_3_code_4) rfl ((if0 _ _).trans (teq (by decide : (0 : Int32) = (0 : Int32))).2) ?_
      show Steps p.tables e below (T18.setTop (mkF m 7 #[.val (.ref a), .unset] [])) _
      refine XS.aloadN X18.here hx rfl (hb hby d_jdk_56_method_3_code_7) rfl rfl ?_
      show Steps p.tables e below (T18.setTop (mkF m 8 #[.val (.ref a), .unset] [(.ref a)])) _
      refine st19 _ ?_
      show Steps p.tables e below (T19.setTop (mkF m 11 #[.val (.ref a), .unset] [(.int (0 : Int32))])) _
      refine XS.ifYes X19.here hx rfl (pc0 := 11) (pc' := 31) rfl (hb hby d_jdk_56_method_3_code_11) rfl ((if0 _ _).trans (teq (by decide : (0 : Int32) = (0 : Int32))).1) (by decide) (by decide) ?_
      show Steps p.tables e below (T19.setTop (mkF m 31 #[.val (.ref a), .unset] [])) _
      refine XS.aloadN X19.here hx rfl (hb hby d_jdk_56_method_3_code_31) rfl rfl ?_
      show Steps p.tables e below (T19.setTop (mkF m 32 #[.val (.ref a), .unset] [(.ref a)])) _
      refine st20.trans ?_
      show Steps p.tables e below (T20.setTop (mkF m 37 #[.val (.ref a), .unset] [(.int (0 : Int32))])) _
      refine XS.ifYes X20.here hx rfl (pc0 := 37) (pc' := 44) rfl (hb hby d_jdk_56_method_3_code_37) rfl ((if0 _ _).trans (teq (by decide : (0 : Int32) = (0 : Int32))).1) (by decide) (by decide) ?_
      show Steps p.tables e below (T20.setTop (mkF m 44 #[.val (.ref a), .unset] [])) _
      refine XS.aloadN X20.here hx rfl (hb hby d_jdk_56_method_3_code_44) rfl rfl ?_
      show Steps p.tables e below (T20.setTop (mkF m 45 #[.val (.ref a), .unset] [(.ref a)])) _
      refine st22.trans ?_
      show Steps p.tables e below (T22.setTop (mkF m 50 #[.val (.ref a), .unset] [(.ref b222)])) _
      refine st26 _ ?_
      show Steps p.tables e below (T26.setTop (mkF m 53 #[.val (.ref a), .unset] [(.ref r26)])) _
      exact retOut X26 hx Bd.returns rfl (Or.inr (Or.inr (Or.inr (Or.inr ⟨rfl, rfl, rfl⟩)))) (hb hby d_jdk_56_method_3_code_53) hretL
    · show Q_rmlcp Z a z el tel kel em mr h0 n0 _ T26.heap _
      exact ⟨_, rfl, N27, K28, Or.inl ⟨Er26, hz⟩⟩
  · obtain ⟨T29, X29, e29, st29⟩ := instNo X0 hx hZ hown (ow103 hw) e0 Ea (own_ns12 hw) (g := (mkF m 1 #[.val (.ref a), .unset] [(.ref a)])) rfl rfl (hb hby d_jdk_56_method_3_code_1)
    obtain ⟨T30, X30, e30, st30⟩ := instNo X29 hx hZ hown (ow108 hw) e29 Ea (own_nsN hw) (g := (mkF m 8 #[.val (.ref a), .unset] [(.ref a)])) rfl rfl (hb hby d_jdk_56_method_3_code_8)
    obtain ⟨cq31, kq31, q31a, q31b, q31c⟩ := isOf hZ e30 Ea
    obtain ⟨_, _, ⟨T31, L31, k31, n31⟩, -, X31, ⟨Lc31, hQ31, l31, y31, z31⟩, st31⟩ := X30.interfaceBack hx (xi := (⟨"java/util/Collection", "isEmpty", "()Z"⟩ : MethodName)) (y := (⟨"java/util/ArrayList", "isEmpty", "()Z"⟩ : MethodName)) hown (mvT hZ (ow109 hw)) (mvT hZ (ow110 hw)) (mvT hZ (ow111 hw)) (mvT hZ (ow112 hw)) (mvT hZ (ow113 hw)) (mvT hZ (ow114 hw)) (mvT hZ (ow115 hw)) (mvT hZ (ow116 hw)) (by decide) (backOf (W := 0) (rmemp l Z a0 hw [] a (3 : Int32) h0 n0 O0 Fs) hZ (ow117 hw) (ow35 hw) (by decide) (by decide)) q31a q31b q31c (g := (mkF m 32 #[.val (.ref a), .unset] [(.ref a)])) rfl (by rw [hml]; rfl) (Steps.refl _) (argsL := []) (rest := []) (lenOf pd12 rfl) rfl (by show 2 * 0 + _ ≤ _; exact Nat.le_of_eq rfl) (hb hby d_jdk_56_method_3_code_32) (fun _ _ => ⟨rfl, e30, (by decide : 0 + 0 ≤ _), (by decide : 0 + 0 ≤ _)⟩)
    dsimp only [Pt.U, Pt.locs, Pt.cells, Pt.slots] at X31 l31 y31 z31 st31 hQ31
    subst l31 y31 z31
    obtain ⟨rfl, Nq31, eq31⟩ := hQ31
    have N32 := Fr.app N0 Nq31
    obtain ⟨cq33, kq33, q33a, q33b, q33c⟩ := isOf hZ eq31 Ea
    obtain ⟨_, _, ⟨T33, L33, k33, n33⟩, -, X33, ⟨Lc33, hQ33, l33, y33, z33⟩, st33⟩ := X31.interfaceBack hx (xi := (⟨"java/util/Collection", "toArray", "()[Ljava/lang/Object;"⟩ : MethodName)) (y := (⟨"java/util/ArrayList", "toArray", "()[Ljava/lang/Object;"⟩ : MethodName)) hown (mvT hZ (ow122 hw)) (mvT hZ (ow123 hw)) (mvT hZ (ow124 hw)) (mvT hZ (ow125 hw)) (mvT hZ (ow126 hw)) (mvT hZ (ow127 hw)) (mvT hZ (ow128 hw)) (mvT hZ (ow116 hw)) (by decide) (backOf (W := 0) (rmta3 l Z a0 hw [] a b kk C sp mr h0 n0 O0 Fs Fe Eb Ab hM Esp hcast) hZ (ow129 hw) (ow35 hw) (by decide) (by decide)) q33a q33b q33c (g := (mkF m 45 #[.val (.ref a), .unset] [(.ref a)])) rfl (by rw [hml]; rfl) (Steps.refl _) (argsL := []) (rest := []) (lenOf pd3 rfl) rfl (by show 2 * 0 + _ ≤ _; exact Nat.le_of_eq rfl) (hb hby d_jdk_56_method_3_code_45) (fun _ _ => ⟨rfl, eq31, (by decide : 0 + 1 ≤ _), (by decide : 0 + 3 ≤ _)⟩)
    dsimp only [Pt.U, Pt.locs, Pt.cells, Pt.slots] at X33 l33 y33 z33 st33 hQ33
    subst l33 y33 z33
    obtain ⟨b233, k233, rfl, Nq33, kp33, Ac33⟩ := hQ33
    have N34 := Fr.app N32 Nq33
    have Ol35 := O0.keep kp33 all0
    have K35 := K0.trans kp33 all0
    have f36 := (Esp.keep kp33)
    obtain ⟨_, _, ⟨T37, L37, k37, n37⟩, -, X37, ⟨Lc37, hQ37, l37, y37, z37⟩, st37⟩ := Jvm.LawKit.callS X33 hx (y := (⟨"java/util/List", "of", "([Ljava/lang/Object;)Ljava/util/List;"⟩ : MethodName)) hown (mvT hZ (ow152 hw)) (mvT hZ (ow153 hw)) (mvT hZ (ow97 hw)) (mvT hZ (ow154 hw)) (by decide) (backOf (W := 0) (rmof3 l Z a0 hw [] b233 k233 C sp T33.heap n0 Ol35 Ac33 f36 hcast) hZ (ow154 hw) (ow97 hw) (by decide) (by decide)) (g := (mkF m 50 #[.val (.ref a), .unset] [(.ref b233)])) rfl (by rw [hml]; rfl) (argsL := [(.ref b233)]) (rest := []) (lenOf pd9 rfl) rfl (by show 2 * 0 + _ ≤ _; exact Nat.le_of_eq rfl) (hb hby d_jdk_56_method_3_code_50) (fun _ _ => ⟨rfl, rfl, (by decide : 1 + 2 ≤ _), (by decide : 3 + 5 ≤ _)⟩)
    dsimp only [Pt.U, Pt.locs, Pt.cells, Pt.slots] at X37 l37 y37 z37 st37 hQ37
    subst l37 y37 z37
    obtain ⟨r37, t37, kt37, rfl, Nq37, kp37, Er37, Fr37, At37⟩ := hQ37
    have N38 := Fr.app N34 Nq37
    have Ol39 := Ol35.keep kp37 all0
    have K39 := K35.trans kp37 all0
    obtain ⟨fs, hretL, hrun, hended, hW, hsame⟩ := X37.leave (v := some (.ref r37)) (fun h => by rw [Bd.returns] at h; cases h)
    refine ⟨_, _, pre0 _ ?_, hrun, hended, _, _, rfl, ?_, ⟨_, rfl⟩, hW, hsame.mono (by decide) (by decide)⟩
    · refine XS.aloadN X0.here hx rfl (hb hby d_jdk_56_method_3_code_0) rfl rfl ?_
      show Steps p.tables e below (s₁.setTop (mkF m 1 #[.val (.ref a), .unset] [(.ref a)])) _
      refine st29 _ ?_
      show Steps p.tables e below (T29.setTop (mkF m 4 #[.val (.ref a), .unset] [(.int (0 : Int32))])) _
      refine XS.ifNo X29.here hx rfl (hb hby d_jdk_56_method_3_code_4) rfl ((if0 _ _).trans (teq (by decide : (0 : Int32) = (0 : Int32))).2) ?_
      show Steps p.tables e below (T29.setTop (mkF m 7 #[.val (.ref a), .unset] [])) _
      refine XS.aloadN X29.here hx rfl (hb hby d_jdk_56_method_3_code_7) rfl rfl ?_
      show Steps p.tables e below (T29.setTop (mkF m 8 #[.val (.ref a), .unset] [(.ref a)])) _
      refine st30 _ ?_
      show Steps p.tables e below (T30.setTop (mkF m 11 #[.val (.ref a), .unset] [(.int (0 : Int32))])) _
      refine XS.ifYes X30.here hx rfl (pc0 := 11) (pc' := 31) rfl (hb hby d_jdk_56_method_3_code_11) rfl ((if0 _ _).trans (teq (by decide : (0 : Int32) = (0 : Int32))).1) (by decide) (by decide) ?_
      show Steps p.tables e below (T30.setTop (mkF m 31 #[.val (.ref a), .unset] [])) _
      refine XS.aloadN X30.here hx rfl (hb hby d_jdk_56_method_3_code_31) rfl rfl ?_
      show Steps p.tables e below (T30.setTop (mkF m 32 #[.val (.ref a), .unset] [(.ref a)])) _
      refine st31.trans ?_
      show Steps p.tables e below (T31.setTop (mkF m 37 #[.val (.ref a), .unset] [(.int (0 : Int32))])) _
      refine XS.ifYes X31.here hx rfl (pc0 := 37) (pc' := 44) rfl (hb hby d_jdk_56_method_3_code_37) rfl ((if0 _ _).trans (teq (by decide : (0 : Int32) = (0 : Int32))).1) (by decide) (by decide) ?_
      show Steps p.tables e below (T31.setTop (mkF m 44 #[.val (.ref a), .unset] [])) _
      refine XS.aloadN X31.here hx rfl (hb hby d_jdk_56_method_3_code_44) rfl rfl ?_
      show Steps p.tables e below (T31.setTop (mkF m 45 #[.val (.ref a), .unset] [(.ref a)])) _
      refine st33.trans ?_
      show Steps p.tables e below (T33.setTop (mkF m 50 #[.val (.ref a), .unset] [(.ref b233)])) _
      refine st37 _ ?_
      show Steps p.tables e below (T37.setTop (mkF m 53 #[.val (.ref a), .unset] [(.ref r37)])) _
      exact retOut X37 hx Bd.returns rfl (Or.inr (Or.inr (Or.inr (Or.inr ⟨rfl, rfl, rfl⟩)))) (hb hby d_jdk_56_method_3_code_53) hretL
    · show Q_rmlcp Z a z el tel kel em mr h0 n0 _ T37.heap _
      exact ⟨_, rfl, N38, K39, Or.inr ⟨_, _, _, _, Er37, Fr37, At37, by rw [hz]; rfl⟩⟩
theorem d_jdk_40_method_48_code_0 : decode jdk_40_method_48_code 0 = .ok (.aload_n 0, 1) := by decide +kernel
theorem d_jdk_40_method_48_code_1 : decode jdk_40_method_48_code 1 = .ok (.invokestatic 112, 3) := by decide +kernel
theorem d_jdk_40_method_48_code_4 : decode jdk_40_method_48_code 4 = .ok (.areturn, 1) := by decide +kernel
def Q_rmcpy (Z : State) (a : Addr) (z : Int32) (el : Addr) (tel : Addr) (kel : ClassId) (em : Addr) (mr : Addr) (h0 : Heap) (n0 : Nat) (v : Option Value) (h : Heap) (L : List Loc) : Prop := ∃ (r : Addr), v = some (.ref r) ∧ Fr n0 L ∧ Keep h0 h [] ∧ LE Z h r z
theorem ef_rmcpy (m : MethodId) (a : Addr) : entryFrame m #[(.ref a)] 1 = mkF m 0 #[.val (.ref a)] [] := by first | (simp [entryFrame, mkF, argsToLocals, Value.category]; done) | rfl
set_option maxRecDepth 65536 in
set_option maxHeartbeats 40000000 in
theorem rmcpy (l : Launch) (Z : State) (a0 : Array Value) (hw : ∀ d ∈ tables_1, d.before a0 Z = true) (ws : List Jvm.Cond) (a : Addr) (z : Int32) (el : Addr) (tel : Addr) (kel : ClassId) (em : Addr) (mr : Addr) (h0 : Heap) (n0 : Nat) (O0 : Old Z n0 h0) (hLK : LK Z a0 h0 a z) (Sel : Sta Z Z.heap "java/util/ImmutableCollections" "EMPTY_LIST" "Ljava/util/ImmutableCollections$ListN;" (.ref el)) (Sem : Sta Z Z.heap "java/util/ImmutableCollections" "EMPTY" "Ljava/lang/Object;" (.ref em)) (hM : MM Z "[Ljava/lang/Object;" mr) (Eel : Exa Z Z.heap el "java/util/ImmutableCollections$ListN") (Fel : Fld Z Z.heap el "java/util/ImmutableCollections$ListN" "elements" "[Ljava/lang/Object;" (.ref tel)) (Ael : Arv Z Z.heap tel kel (.object "java/lang/Object") (0 : Int32) [] .null) :
    MetFree l (⟨"java/util/List", "copyOf", "(Ljava/util/Collection;)Ljava/util/List;"⟩ : MethodName) (head1 (Jvm.Cond.code (⟨"java/util/List", "copyOf", "(Ljava/util/Collection;)Ljava/util/List;"⟩ : MethodName) jdk_40_method_48_code 1 (some (.object "java/util/List")) :: ws) ({ frames := 8, cells := 3, slots := 8, locals := 113 } : Room)) (fun aa U => aa = #[(.ref a)] ∧ Z.Warmed39 U.vm ∧ U.heap = h0) (fun _ _ _ _ _ => True) (fun _ U o U' => ∃ v L, o = .returned v ∧ Q_rmcpy Z a z el tel kel em mr h0 n0 v U'.heap L ∧ FrameEnd U o U' L ({ frames := 8, cells := 3, slots := 8, locals := 113 } : Room).cells ({ frames := 8, cells := 3, slots := 8, locals := 113 } : Room).slots) := by
  refine MetFree.of_bodySF (plainFor_of_name pn12) hisR ?_
  intro p e s m args below meth c s₁ Bd hml0 hP hK
  obtain ⟨rfl, hZ, hh⟩ := hP
  have hx := Bd.exec
  have hby := Bd.bytes
  have hml : c.maxLocals = 1 := hml0
  have hown : s.vm.findClass "java/util/List" = some m.cls := findClass_of_methodNamed Bd.named
  have hnm := (name_of_methodNamed Bd.named Bd.method).1
  have X0 : Stand p l e ({ frames := 8, cells := 3, slots := 8, locals := 113 } : Room) s m #[(.ref a)] below meth c s₁ [] 0 0 := Stand.of_body Bd
  have e0 : s₁.heap = h0 := by rw [← hh, Bd.state]; rfl
  have N0 := Fr.nil n0
  have K0 : Keep h0 h0 [] := Keep.refl _ _
  have pre0 : ∀ tgt, Steps p.tables e below (s₁.setTop (mkF m 0 #[.val (.ref a)] [])) tgt → Steps p.tables e below (s₁.setTop (entryFrame m #[(.ref a)] 1)) tgt := fun tgt kgo => castTop (ef_rmcpy m a) kgo
  obtain ⟨_, _, ⟨T1, L1, k1, n1⟩, -, X1, ⟨Lc1, hQ1, l1, y1, z1⟩, st1⟩ := Jvm.LawKit.callS X0 hx (y := (⟨"java/util/ImmutableCollections", "listCopy", "(Ljava/util/Collection;)Ljava/util/List;"⟩ : MethodName)) hown (mvT hZ (ow99 hw)) (mvT hZ (ow100 hw)) (mvT hZ (ow101 hw)) (mvT hZ (ow102 hw)) (by decide) (backOf (W := 0) (rmlcp l Z a0 hw [] a z el tel kel em mr h0 n0 O0 hLK Sel Sem hM Eel Fel Ael) hZ (ow102 hw) (ow101 hw) (by decide) (by decide)) (g := (mkF m 1 #[.val (.ref a)] [(.ref a)])) rfl (by rw [hml]; rfl) (argsL := [(.ref a)]) (rest := []) (lenOf pd14 rfl) rfl (by show 2 * 0 + _ ≤ _; exact Nat.le_of_eq rfl) (hb hby d_jdk_40_method_48_code_1) (fun _ _ => ⟨rfl, e0, (by decide : 0 + 3 ≤ _), (by decide : 0 + 8 ≤ _)⟩)
  dsimp only [Pt.U, Pt.locs, Pt.cells, Pt.slots] at X1 l1 y1 z1 st1 hQ1
  subst l1 y1 z1
  obtain ⟨r1, rfl, Nq1, kp1, hle1⟩ := hQ1
  have N2 := Fr.app N0 Nq1
  have Ol3 := O0.keep kp1 all0
  have K3 := K0.trans kp1 all0
  obtain ⟨fs, hretL, hrun, hended, hW, hsame⟩ := X1.leave (v := some (.ref r1)) (fun h => by rw [Bd.returns] at h; cases h)
  refine ⟨_, _, pre0 _ ?_, hrun, hended, _, _, rfl, ?_, ⟨_, rfl⟩, hW, hsame.mono (by decide) (by decide)⟩
  · refine XS.aloadN X0.here hx rfl (hb hby d_jdk_40_method_48_code_0) rfl rfl ?_
    show Steps p.tables e below (s₁.setTop (mkF m 1 #[.val (.ref a)] [(.ref a)])) _
    refine st1 _ ?_
    show Steps p.tables e below (T1.setTop (mkF m 4 #[.val (.ref a)] [(.ref r1)])) _
    exact retOut X1 hx Bd.returns rfl (Or.inr (Or.inr (Or.inr (Or.inr ⟨rfl, rfl, rfl⟩)))) (hb hby d_jdk_40_method_48_code_4) hretL
  · show Q_rmcpy Z a z el tel kel em mr h0 n0 _ T1.heap _
    exact ⟨_, rfl, N2, K3, hle1⟩
theorem d_prog_1_method_1_code_0 : decode prog_1_method_1_code 0 = .ok (.aload_n 0, 1) := by decide +kernel
theorem d_prog_1_method_1_code_1 : decode prog_1_method_1_code 1 = .ok (.invokespecial 1, 3) := by decide +kernel
theorem d_prog_1_method_1_code_4 : decode prog_1_method_1_code 4 = .ok (.aload_n 1, 1) := by decide +kernel
theorem d_prog_1_method_1_code_5 : decode prog_1_method_1_code 5 = .ok (.invokestatic 7, 3) := by decide +kernel
theorem d_prog_1_method_1_code_8 : decode prog_1_method_1_code 8 = .ok (.astore_n 1, 1) := by decide +kernel
theorem d_prog_1_method_1_code_9 : decode prog_1_method_1_code 9 = .ok (.aload_n 2, 1) := by decide +kernel
theorem d_prog_1_method_1_code_10 : decode prog_1_method_1_code 10 = .ok (.invokestatic 7, 3) := by decide +kernel
theorem d_prog_1_method_1_code_13 : decode prog_1_method_1_code 13 = .ok (.astore_n 2, 1) := by decide +kernel
theorem d_prog_1_method_1_code_14 : decode prog_1_method_1_code 14 = .ok (.aload_n 0, 1) := by decide +kernel
theorem d_prog_1_method_1_code_15 : decode prog_1_method_1_code 15 = .ok (.aload_n 1, 1) := by decide +kernel
theorem d_prog_1_method_1_code_16 : decode prog_1_method_1_code 16 = .ok (.putfield 13, 3) := by decide +kernel
theorem d_prog_1_method_1_code_19 : decode prog_1_method_1_code 19 = .ok (.aload_n 0, 1) := by decide +kernel
theorem d_prog_1_method_1_code_20 : decode prog_1_method_1_code 20 = .ok (.aload_n 2, 1) := by decide +kernel
theorem d_prog_1_method_1_code_21 : decode prog_1_method_1_code 21 = .ok (.putfield 19, 3) := by decide +kernel
theorem d_prog_1_method_1_code_24 : decode prog_1_method_1_code 24 = .ok (.return_, 1) := by decide +kernel
def Q_rmadm (Z : State) (a : Addr) (l1 : Addr) (l2 : Addr) (z1 : Int32) (z2 : Int32) (el : Addr) (tel : Addr) (kel : ClassId) (em : Addr) (mr : Addr) (h0 : Heap) (n0 : Nat) (v : Option Value) (h : Heap) (L : List Loc) : Prop := ∃ (r1 r2 : Addr), v = none ∧ Fr n0 L ∧ Keep h0 h [a] ∧ Fld Z h a "com/example/atropos/atropos/analysis/Admission" "serviceExceeded" "Ljava/util/List;" (.ref r1) ∧ Fld Z h a "com/example/atropos/atropos/analysis/Admission" "rateExceeded" "Ljava/util/List;" (.ref r2) ∧ LE Z h r1 z1 ∧ LE Z h r2 z2
theorem ef_rmadm (m : MethodId) (a : Addr) (l1 : Addr) (l2 : Addr) : entryFrame m #[(.ref a), (.ref l1), (.ref l2)] 3 = mkF m 0 #[.val (.ref a), .val (.ref l1), .val (.ref l2)] [] := by first | (simp [entryFrame, mkF, argsToLocals, Value.category]; done) | rfl
set_option maxRecDepth 65536 in
set_option maxHeartbeats 40000000 in
theorem rmadm (l : Launch) (Z : State) (a0 : Array Value) (hw : ∀ d ∈ tables_1, d.before a0 Z = true) (ws : List Jvm.Cond) (a : Addr) (l1 : Addr) (l2 : Addr) (z1 : Int32) (z2 : Int32) (el : Addr) (tel : Addr) (kel : ClassId) (em : Addr) (mr : Addr) (h0 : Heap) (n0 : Nat) (O0 : Old Z n0 h0) (Ea : Exa Z h0 a "com/example/atropos/atropos/analysis/Admission") (F1 : Fld Z h0 a "com/example/atropos/atropos/analysis/Admission" "serviceExceeded" "Ljava/util/List;" .null) (F2 : Fld Z h0 a "com/example/atropos/atropos/analysis/Admission" "rateExceeded" "Ljava/util/List;" .null) (ga : n0 ≤ a) (hL1 : LK Z a0 h0 l1 z1) (hL2 : LK Z a0 h0 l2 z2) (Sel : Sta Z Z.heap "java/util/ImmutableCollections" "EMPTY_LIST" "Ljava/util/ImmutableCollections$ListN;" (.ref el)) (Sem : Sta Z Z.heap "java/util/ImmutableCollections" "EMPTY" "Ljava/lang/Object;" (.ref em)) (hM : MM Z "[Ljava/lang/Object;" mr) (Eel : Exa Z Z.heap el "java/util/ImmutableCollections$ListN") (Fel : Fld Z Z.heap el "java/util/ImmutableCollections$ListN" "elements" "[Ljava/lang/Object;" (.ref tel)) (Ael : Arv Z Z.heap tel kel (.object "java/lang/Object") (0 : Int32) [] .null) :
    MetFree l (⟨"com/example/atropos/atropos/analysis/Admission", "<init>", "(Ljava/util/List;Ljava/util/List;)V"⟩ : MethodName) (head1 (Jvm.Cond.code (⟨"com/example/atropos/atropos/analysis/Admission", "<init>", "(Ljava/util/List;Ljava/util/List;)V"⟩ : MethodName) prog_1_method_1_code 3 none :: ws) ({ frames := 9, cells := 6, slots := 16, locals := 125 } : Room)) (fun aa U => aa = #[(.ref a), (.ref l1), (.ref l2)] ∧ Z.Warmed39 U.vm ∧ U.heap = h0) (fun _ _ _ _ _ => True) (fun _ U o U' => ∃ v L, o = .returned v ∧ Q_rmadm Z a l1 l2 z1 z2 el tel kel em mr h0 n0 v U'.heap L ∧ FrameEnd U o U' L ({ frames := 9, cells := 6, slots := 16, locals := 125 } : Room).cells ({ frames := 9, cells := 6, slots := 16, locals := 125 } : Room).slots) := by
  refine MetFree.of_bodySF (plainFor_of_name pn14) hisR ?_
  intro p e s m args below meth c s₁ Bd hml0 hP hK
  obtain ⟨rfl, hZ, hh⟩ := hP
  have hx := Bd.exec
  have hby := Bd.bytes
  have hml : c.maxLocals = 3 := hml0
  have hown : s.vm.findClass "com/example/atropos/atropos/analysis/Admission" = some m.cls := findClass_of_methodNamed Bd.named
  have hnm := (name_of_methodNamed Bd.named Bd.method).1
  have X0 : Stand p l e ({ frames := 9, cells := 6, slots := 16, locals := 125 } : Room) s m #[(.ref a), (.ref l1), (.ref l2)] below meth c s₁ [] 0 0 := Stand.of_body Bd
  have e0 : s₁.heap = h0 := by rw [← hh, Bd.state]; rfl
  have N0 := Fr.nil n0
  have K0 : Keep h0 h0 [a] := Keep.refl _ _
  have pre0 : ∀ tgt, Steps p.tables e below (s₁.setTop (mkF m 0 #[.val (.ref a), .val (.ref l1), .val (.ref l2)] [])) tgt → Steps p.tables e below (s₁.setTop (entryFrame m #[(.ref a), (.ref l1), (.ref l2)] 3)) tgt := fun tgt kgo => castTop (ef_rmadm m a l1 l2) kgo
  obtain ⟨_, _, ⟨T1, L1, k1, n1⟩, -, X1, ⟨Lc1, hQ1, l1, y1, z1⟩, st1⟩ := X0.specialBack hx (y := (⟨"java/lang/Record", "<init>", "()V"⟩ : MethodName)) rfl hown (mvT hZ (ow94 hw)) (mvT hZ (ow7 hw)) (mvT hZ (ow10 hw)) (by decide) (backOf (W := 0) (rmrec l Z a0 hw [] a  h0 n0 O0 ) hZ (ow10 hw) (ow9 hw) (by decide) (by decide)) (g := (mkF m 1 #[.val (.ref a), .val (.ref l1), .val (.ref l2)] [(.ref a)])) rfl (by rw [hml]; rfl) (Steps.refl _) (a := a) (argsL := []) (rest := []) (lenOf pd0 rfl) rfl (by show 2 * 0 + _ ≤ _; exact Nat.le_of_eq rfl) (hb hby d_prog_1_method_1_code_1) (fun _ _ => ⟨rfl, e0, (by decide : 0 + 0 ≤ _), (by decide : 0 + 0 ≤ _)⟩)
  dsimp only [Pt.U, Pt.locs, Pt.cells, Pt.slots] at X1 l1 y1 z1 st1 hQ1
  subst l1 y1 z1
  obtain ⟨rfl, Nq1, eq1⟩ := hQ1
  have N2 := Fr.app N0 Nq1
  obtain ⟨_, _, ⟨T3, L3, k3, n3⟩, -, X3, ⟨Lc3, hQ3, l3, y3, z3⟩, st3⟩ := Jvm.LawKit.callS X1 hx (y := (⟨"java/util/List", "copyOf", "(Ljava/util/Collection;)Ljava/util/List;"⟩ : MethodName)) hown (mvT hZ (ow95 hw)) (mvT hZ (ow96 hw)) (mvT hZ (ow97 hw)) (mvT hZ (ow98 hw)) (by decide) (backOf (W := 0) (rmcpy l Z a0 hw [] l1 z1 el tel kel em mr h0 n0 O0 hL1 Sel Sem hM Eel Fel Ael) hZ (ow98 hw) (ow97 hw) (by decide) (by decide)) (g := (mkF m 5 #[.val (.ref a), .val (.ref l1), .val (.ref l2)] [(.ref l1)])) rfl (by rw [hml]; rfl) (argsL := [(.ref l1)]) (rest := []) (lenOf pd14 rfl) rfl (by show 2 * 0 + _ ≤ _; exact Nat.le_of_eq rfl) (hb hby d_prog_1_method_1_code_5) (fun _ _ => ⟨rfl, eq1, (by decide : 0 + 3 ≤ _), (by decide : 0 + 8 ≤ _)⟩)
  dsimp only [Pt.U, Pt.locs, Pt.cells, Pt.slots] at X3 l3 y3 z3 st3 hQ3
  subst l3 y3 z3
  obtain ⟨r3, rfl, Nq3, kp3, hle3⟩ := hQ3
  have N4 := Fr.app N2 Nq3
  have Ol5 := O0.keep kp3 all0
  have K5 := K0.trans kp3 all0
  have f6 := (hL2.keep kp3)
  obtain ⟨_, _, ⟨T7, L7, k7, n7⟩, -, X7, ⟨Lc7, hQ7, l7, y7, z7⟩, st7⟩ := Jvm.LawKit.callS X3 hx (y := (⟨"java/util/List", "copyOf", "(Ljava/util/Collection;)Ljava/util/List;"⟩ : MethodName)) hown (mvT hZ (ow95 hw)) (mvT hZ (ow96 hw)) (mvT hZ (ow97 hw)) (mvT hZ (ow98 hw)) (by decide) (backOf (W := 0) (rmcpy l Z a0 hw [] l2 z2 el tel kel em mr T3.heap n0 Ol5 f6 Sel Sem hM Eel Fel Ael) hZ (ow98 hw) (ow97 hw) (by decide) (by decide)) (g := (mkF m 10 #[.val (.ref a), .val (.ref r3), .val (.ref l2)] [(.ref l2)])) rfl (by rw [hml]; rfl) (argsL := [(.ref l2)]) (rest := []) (lenOf pd14 rfl) rfl (by show 2 * 0 + _ ≤ _; exact Nat.le_of_eq rfl) (hb hby d_prog_1_method_1_code_10) (fun _ _ => ⟨rfl, rfl, (by decide : 3 + 3 ≤ _), (by decide : 8 + 8 ≤ _)⟩)
  dsimp only [Pt.U, Pt.locs, Pt.cells, Pt.slots] at X7 l7 y7 z7 st7 hQ7
  subst l7 y7 z7
  obtain ⟨r7, rfl, Nq7, kp7, hle7⟩ := hQ7
  have N8 := Fr.app N4 Nq7
  have Ol9 := Ol5.keep kp7 all0
  have K9 := K5.trans kp7 all0
  have f10 := ((Ea.keep kp3).keep kp7)
  have f11 := ((F1.keep kp3 nin0).keep kp7 nin0)
  obtain ⟨T12, h12, X12, e12, W12, st12⟩ := putF X7 hx hZ hown (host := "") (Or.inl (ow187 hw)) Via.refl rfl f11 f10 (Or.inr ⟨(ow188 hw), rfl, hnm⟩) (ow89 hw) (ty := (.object "java/util/List")) (by decide) rfl rfl (g := (mkF m 16 #[.val (.ref a), .val (.ref r3), .val (.ref r7)] [(.ref r3), (.ref a)])) rfl rfl (hb hby d_prog_1_method_1_code_16)
  have Fw12 := f11.same W12
  have N13 := Fr.snoc X12 N8 ga
  have Ol13 := Ol9.wr W12 ga
  have K13 := K9.wr W12 (Or.inl (List.mem_of_getElem? (i := 0) rfl))
  have f14 := (f10.wr W12)
  have f15 := (((F2.keep kp3 nin0).keep kp7 nin0).other W12 (Or.inr (slot_ne (Or.inr (ow190 hw)) (Or.inr (ow188 hw)) (by decide) (t := (.object "java/util/List")) (t' := (.object "java/util/List")) (by decide) (by decide))))
  obtain ⟨T16, h16, X16, e16, W16, st16⟩ := putF X12 hx hZ hown (host := "") (Or.inl (ow189 hw)) Via.refl e12 f15 f14 (Or.inr ⟨(ow190 hw), rfl, hnm⟩) (ow89 hw) (ty := (.object "java/util/List")) (by decide) rfl rfl (g := (mkF m 21 #[.val (.ref a), .val (.ref r3), .val (.ref r7)] [(.ref r7), (.ref a)])) rfl rfl (hb hby d_prog_1_method_1_code_21)
  have Fw16 := f15.same W16
  have N17 := Fr.snoc X16 N13 ga
  have Ol17 := Ol13.wr W16 ga
  have K17 := K13.wr W16 (Or.inl (List.mem_of_getElem? (i := 0) rfl))
  have f18 := (Fw12.other W16 (Or.inr (slot_ne (Or.inr (ow188 hw)) (Or.inr (ow190 hw)) (by decide) (t := (.object "java/util/List")) (t' := (.object "java/util/List")) (by decide) (by decide))))
  have f19 := (((hle3.keep kp7).wr W12 f10 (ow89 hw) (by decide)).wr W16 f14 (ow89 hw) (by decide))
  have f20 := ((hle7.wr W12 f10 (ow89 hw) (by decide)).wr W16 f14 (ow89 hw) (by decide))
  obtain ⟨fs, hretL, hrun, hended, hW, hsame⟩ := X16.leave (v := none) (fun _ => rfl)
  refine ⟨_, _, pre0 _ ?_, hrun, hended, _, _, rfl, ?_, ⟨_, rfl⟩, hW, hsame.mono (by decide) (by decide)⟩
  · refine XS.aloadN X0.here hx rfl (hb hby d_prog_1_method_1_code_0) rfl rfl ?_
    show Steps p.tables e below (s₁.setTop (mkF m 1 #[.val (.ref a), .val (.ref l1), .val (.ref l2)] [(.ref a)])) _
    refine st1.trans ?_
    show Steps p.tables e below (T1.setTop (mkF m 4 #[.val (.ref a), .val (.ref l1), .val (.ref l2)] [])) _
    refine XS.aloadN X1.here hx rfl (hb hby d_prog_1_method_1_code_4) rfl rfl ?_
    show Steps p.tables e below (T1.setTop (mkF m 5 #[.val (.ref a), .val (.ref l1), .val (.ref l2)] [(.ref l1)])) _
    refine st3 _ ?_
    show Steps p.tables e below (T3.setTop (mkF m 8 #[.val (.ref a), .val (.ref l1), .val (.ref l2)] [(.ref r3)])) _
    refine XS.astoreN X3.here hx rfl (hb hby d_prog_1_method_1_code_8) rfl rfl (l' := #[.val (.ref a), .val (.ref r3), .val (.ref l2)]) rfl ?_
    show Steps p.tables e below (T3.setTop (mkF m 9 #[.val (.ref a), .val (.ref r3), .val (.ref l2)] [])) _
    refine XS.aloadN X3.here hx rfl (hb hby d_prog_1_method_1_code_9) rfl rfl ?_
    show Steps p.tables e below (T3.setTop (mkF m 10 #[.val (.ref a), .val (.ref r3), .val (.ref l2)] [(.ref l2)])) _
    refine st7 _ ?_
    show Steps p.tables e below (T7.setTop (mkF m 13 #[.val (.ref a), .val (.ref r3), .val (.ref l2)] [(.ref r7)])) _
    refine XS.astoreN X7.here hx rfl (hb hby d_prog_1_method_1_code_13) rfl rfl (l' := #[.val (.ref a), .val (.ref r3), .val (.ref r7)]) rfl ?_
    show Steps p.tables e below (T7.setTop (mkF m 14 #[.val (.ref a), .val (.ref r3), .val (.ref r7)] [])) _
    refine XS.aloadN X7.here hx rfl (hb hby d_prog_1_method_1_code_14) rfl rfl ?_
    show Steps p.tables e below (T7.setTop (mkF m 15 #[.val (.ref a), .val (.ref r3), .val (.ref r7)] [(.ref a)])) _
    refine XS.aloadN X7.here hx rfl (hb hby d_prog_1_method_1_code_15) rfl rfl ?_
    show Steps p.tables e below (T7.setTop (mkF m 16 #[.val (.ref a), .val (.ref r3), .val (.ref r7)] [(.ref r3), (.ref a)])) _
    refine st12 _ ?_
    show Steps p.tables e below (T12.setTop (mkF m 19 #[.val (.ref a), .val (.ref r3), .val (.ref r7)] [])) _
    refine XS.aloadN X12.here hx rfl (hb hby d_prog_1_method_1_code_19) rfl rfl ?_
    show Steps p.tables e below (T12.setTop (mkF m 20 #[.val (.ref a), .val (.ref r3), .val (.ref r7)] [(.ref a)])) _
    refine XS.aloadN X12.here hx rfl (hb hby d_prog_1_method_1_code_20) rfl rfl ?_
    show Steps p.tables e below (T12.setTop (mkF m 21 #[.val (.ref a), .val (.ref r3), .val (.ref r7)] [(.ref r7), (.ref a)])) _
    refine st16 _ ?_
    show Steps p.tables e below (T16.setTop (mkF m 24 #[.val (.ref a), .val (.ref r3), .val (.ref r7)] [])) _
    exact X16.returnOut hx Bd.returns (hb hby d_prog_1_method_1_code_24) hretL
  · show Q_rmadm Z a l1 l2 z1 z2 el tel kel em mr h0 n0 _ T16.heap _
    rw [e16]
    exact ⟨_, _, rfl, N17, K17, f18, Fw16, f19, f20⟩
theorem d_prog_1_method_3_code_0 : decode prog_1_method_3_code 0 = .ok (.aload_n 0, 1) := by decide +kernel
theorem d_prog_1_method_3_code_1 : decode prog_1_method_3_code 1 = .ok (.getfield 13, 3) := by decide +kernel
theorem d_prog_1_method_3_code_4 : decode prog_1_method_3_code 4 = .ok (.invokeinterface 60 1, 5) := by decide +kernel
theorem d_prog_1_method_3_code_9 : decode prog_1_method_3_code 9 = .ok (.ifCond .eq 19, 3) := by decide +kernel
theorem d_prog_1_method_3_code_12 : decode prog_1_method_3_code 12 = .ok (.aload_n 0, 1) := by decide +kernel
theorem d_prog_1_method_3_code_13 : decode prog_1_method_3_code 13 = .ok (.getfield 19, 3) := by decide +kernel
theorem d_prog_1_method_3_code_16 : decode prog_1_method_3_code 16 = .ok (.invokeinterface 60 1, 5) := by decide +kernel
theorem d_prog_1_method_3_code_21 : decode prog_1_method_3_code 21 = .ok (.ifCond .eq 7, 3) := by decide +kernel
theorem d_prog_1_method_3_code_24 : decode prog_1_method_3_code 24 = .ok (.iconst 1, 1) := by decide +kernel
theorem d_prog_1_method_3_code_25 : decode prog_1_method_3_code 25 = .ok (.goto 4, 3) := by decide +kernel
theorem d_prog_1_method_3_code_28 : decode prog_1_method_3_code 28 = .ok (.iconst 0, 1) := by decide +kernel
theorem d_prog_1_method_3_code_29 : decode prog_1_method_3_code 29 = .ok (.ireturn, 1) := by decide +kernel
def Q_rmadt (Z : State) (a : Addr) (r1 : Addr) (r2 : Addr) (z1 : Int32) (z2 : Int32) (h0 : Heap) (n0 : Nat) (v : Option Value) (h : Heap) (L : List Loc) : Prop := v = some (.int (adm z1 z2)) ∧ Fr n0 L ∧ h = h0
theorem ef_rmadt (m : MethodId) (a : Addr) : entryFrame m #[(.ref a)] 1 = mkF m 0 #[.val (.ref a)] [] := by first | (simp [entryFrame, mkF, argsToLocals, Value.category]; done) | rfl
set_option maxRecDepth 65536 in
set_option maxHeartbeats 40000000 in
theorem rmadt (l : Launch) (Z : State) (a0 : Array Value) (hw : ∀ d ∈ tables_1, d.before a0 Z = true) (ws : List Jvm.Cond) (a : Addr) (r1 : Addr) (r2 : Addr) (z1 : Int32) (z2 : Int32) (h0 : Heap) (n0 : Nat) (O0 : Old Z n0 h0) (F1 : Fld Z h0 a "com/example/atropos/atropos/analysis/Admission" "serviceExceeded" "Ljava/util/List;" (.ref r1)) (F2 : Fld Z h0 a "com/example/atropos/atropos/analysis/Admission" "rateExceeded" "Ljava/util/List;" (.ref r2)) (hL1 : LE Z h0 r1 z1) (hL2 : LE Z h0 r2 z2) :
    MetFree l (⟨"com/example/atropos/atropos/analysis/Admission", "admits", "()Z"⟩ : MethodName) (head1 (Jvm.Cond.code (⟨"com/example/atropos/atropos/analysis/Admission", "admits", "()Z"⟩ : MethodName) prog_1_method_3_code 1 (some .boolean) :: ws) ({ frames := 1, cells := 0, slots := 0, locals := 12 } : Room)) (fun aa U => aa = #[(.ref a)] ∧ Z.Warmed39 U.vm ∧ U.heap = h0) (fun _ _ _ _ _ => True) (fun _ U o U' => ∃ v L, o = .returned v ∧ Q_rmadt Z a r1 r2 z1 z2 h0 n0 v U'.heap L ∧ FrameEnd U o U' L ({ frames := 1, cells := 0, slots := 0, locals := 12 } : Room).cells ({ frames := 1, cells := 0, slots := 0, locals := 12 } : Room).slots) := by
  refine MetFree.of_bodySF (plainFor_of_name pn14) hisR ?_
  intro p e s m args below meth c s₁ Bd hml0 hP hK
  obtain ⟨rfl, hZ, hh⟩ := hP
  have hx := Bd.exec
  have hby := Bd.bytes
  have hml : c.maxLocals = 1 := hml0
  have hown : s.vm.findClass "com/example/atropos/atropos/analysis/Admission" = some m.cls := findClass_of_methodNamed Bd.named
  have hnm := (name_of_methodNamed Bd.named Bd.method).1
  have X0 : Stand p l e ({ frames := 1, cells := 0, slots := 0, locals := 12 } : Room) s m #[(.ref a)] below meth c s₁ [] 0 0 := Stand.of_body Bd
  have e0 : s₁.heap = h0 := by rw [← hh, Bd.state]; rfl
  have N0 := Fr.nil n0
  have K0 : Keep h0 h0 [] := Keep.refl _ _
  have pre0 : ∀ tgt, Steps p.tables e below (s₁.setTop (mkF m 0 #[.val (.ref a)] [])) tgt → Steps p.tables e below (s₁.setTop (entryFrame m #[(.ref a)] 1)) tgt := fun tgt kgo => castTop (ef_rmadt m a) kgo
  rcases hL1 with ⟨E1, hz1⟩ | ⟨t1, kt1, n1, vs1, E1, Fe1, At1, hz1⟩
  · rcases hL2 with ⟨E2, hz2⟩ | ⟨t2, kt2, n2, vs2, E2, Fe2, At2, hz2⟩
    · obtain ⟨T1, X1, e1, st1⟩ := getF X0 hx hZ hown (host := "") (Or.inl (ow187 hw)) Via.refl e0 F1 (g := (mkF m 1 #[.val (.ref a)] [(.ref a)])) rfl rfl (hb hby d_prog_1_method_3_code_1)
      obtain ⟨cq2, kq2, q2a, q2b, q2c⟩ := isOf hZ e1 E1
      obtain ⟨_, _, ⟨T2, L2, k2, n2⟩, -, X2, ⟨Lc2, hQ2, l2, y2, z2⟩, st2⟩ := X1.interfaceBack hx (xi := (⟨"java/util/List", "isEmpty", "()Z"⟩ : MethodName)) (y := (⟨"java/util/ImmutableCollections$List12", "isEmpty", "()Z"⟩ : MethodName)) hown (mvT hZ (ow196 hw)) (mvT hZ (ow197 hw)) (mvT hZ (ow198 hw)) (mvT hZ (ow226 hw)) (mvT hZ (ow227 hw)) (mvT hZ (ow228 hw)) (mvT hZ (ow229 hw)) (mvT hZ (ow230 hw)) (by decide) (backOf (W := 0) (rme12 l Z a0 hw [] r1  h0 n0 O0 ) hZ (ow231 hw) (ow208 hw) (by decide) (by decide)) q2a q2b q2c (g := (mkF m 4 #[.val (.ref a)] [(.ref r1)])) rfl (by rw [hml]; rfl) (Steps.refl _) (argsL := []) (rest := []) (lenOf pd12 rfl) rfl (by show 2 * 0 + _ ≤ _; exact Nat.le_of_eq rfl) (hb hby d_prog_1_method_3_code_4) (fun _ _ => ⟨rfl, e1, (by decide : 0 + 0 ≤ _), (by decide : 0 + 0 ≤ _)⟩)
      dsimp only [Pt.U, Pt.locs, Pt.cells, Pt.slots] at X2 l2 y2 z2 st2 hQ2
      subst l2 y2 z2
      obtain ⟨rfl, Nq2, eq2⟩ := hQ2
      have N3 := Fr.app N0 Nq2
      obtain ⟨fs, hretL, hrun, hended, hW, hsame⟩ := X2.leave (v := some (.int (0 : Int32))) (fun h => by rw [Bd.returns] at h; cases h)
      refine ⟨_, _, pre0 _ ?_, hrun, hended, _, _, rfl, ?_, ⟨_, rfl⟩, hW, hsame.mono (by decide) (by decide)⟩
      · refine XS.aloadN X0.here hx rfl (hb hby d_prog_1_method_3_code_0) rfl rfl ?_
        show Steps p.tables e below (s₁.setTop (mkF m 1 #[.val (.ref a)] [(.ref a)])) _
        refine st1 _ ?_
        show Steps p.tables e below (T1.setTop (mkF m 4 #[.val (.ref a)] [(.ref r1)])) _
        refine st2.trans ?_
        show Steps p.tables e below (T2.setTop (mkF m 9 #[.val (.ref a)] [(.int (0 : Int32))])) _
        refine XS.ifYes X2.here hx rfl (pc0 := 9) (pc' := 28) rfl (hb hby d_prog_1_method_3_code_9) rfl ((if0 _ _).trans (teq (by decide : (0 : Int32) = (0 : Int32))).1) (by decide) (by decide) ?_
        show Steps p.tables e below (T2.setTop (mkF m 28 #[.val (.ref a)] [])) _
        refine XS.iconst X2.here hx rfl (hb hby d_prog_1_method_3_code_28) ?_
        show Steps p.tables e below (T2.setTop (mkF m 29 #[.val (.ref a)] [(.int (0 : Int32))])) _
        exact retOut X2 hx Bd.returns rfl (Or.inl ⟨rfl, Or.inr (Or.inl rfl), _, rfl⟩) (hb hby d_prog_1_method_3_code_29) hretL
      · show Q_rmadt Z a r1 r2 z1 z2 h0 n0 _ T2.heap _
        rw [eq2]
        exact ⟨by simp [adm, hz1, hz2], N3, rfl⟩
    · obtain ⟨T4, X4, e4, st4⟩ := getF X0 hx hZ hown (host := "") (Or.inl (ow187 hw)) Via.refl e0 F1 (g := (mkF m 1 #[.val (.ref a)] [(.ref a)])) rfl rfl (hb hby d_prog_1_method_3_code_1)
      obtain ⟨cq5, kq5, q5a, q5b, q5c⟩ := isOf hZ e4 E1
      obtain ⟨_, _, ⟨T5, L5, k5, n5⟩, -, X5, ⟨Lc5, hQ5, l5, y5, z5⟩, st5⟩ := X4.interfaceBack hx (xi := (⟨"java/util/List", "isEmpty", "()Z"⟩ : MethodName)) (y := (⟨"java/util/ImmutableCollections$List12", "isEmpty", "()Z"⟩ : MethodName)) hown (mvT hZ (ow196 hw)) (mvT hZ (ow197 hw)) (mvT hZ (ow198 hw)) (mvT hZ (ow226 hw)) (mvT hZ (ow227 hw)) (mvT hZ (ow228 hw)) (mvT hZ (ow229 hw)) (mvT hZ (ow230 hw)) (by decide) (backOf (W := 0) (rme12 l Z a0 hw [] r1  h0 n0 O0 ) hZ (ow231 hw) (ow208 hw) (by decide) (by decide)) q5a q5b q5c (g := (mkF m 4 #[.val (.ref a)] [(.ref r1)])) rfl (by rw [hml]; rfl) (Steps.refl _) (argsL := []) (rest := []) (lenOf pd12 rfl) rfl (by show 2 * 0 + _ ≤ _; exact Nat.le_of_eq rfl) (hb hby d_prog_1_method_3_code_4) (fun _ _ => ⟨rfl, e4, (by decide : 0 + 0 ≤ _), (by decide : 0 + 0 ≤ _)⟩)
      dsimp only [Pt.U, Pt.locs, Pt.cells, Pt.slots] at X5 l5 y5 z5 st5 hQ5
      subst l5 y5 z5
      obtain ⟨rfl, Nq5, eq5⟩ := hQ5
      have N6 := Fr.app N0 Nq5
      obtain ⟨fs, hretL, hrun, hended, hW, hsame⟩ := X5.leave (v := some (.int (0 : Int32))) (fun h => by rw [Bd.returns] at h; cases h)
      refine ⟨_, _, pre0 _ ?_, hrun, hended, _, _, rfl, ?_, ⟨_, rfl⟩, hW, hsame.mono (by decide) (by decide)⟩
      · refine XS.aloadN X0.here hx rfl (hb hby d_prog_1_method_3_code_0) rfl rfl ?_
        show Steps p.tables e below (s₁.setTop (mkF m 1 #[.val (.ref a)] [(.ref a)])) _
        refine st4 _ ?_
        show Steps p.tables e below (T4.setTop (mkF m 4 #[.val (.ref a)] [(.ref r1)])) _
        refine st5.trans ?_
        show Steps p.tables e below (T5.setTop (mkF m 9 #[.val (.ref a)] [(.int (0 : Int32))])) _
        refine XS.ifYes X5.here hx rfl (pc0 := 9) (pc' := 28) rfl (hb hby d_prog_1_method_3_code_9) rfl ((if0 _ _).trans (teq (by decide : (0 : Int32) = (0 : Int32))).1) (by decide) (by decide) ?_
        show Steps p.tables e below (T5.setTop (mkF m 28 #[.val (.ref a)] [])) _
        refine XS.iconst X5.here hx rfl (hb hby d_prog_1_method_3_code_28) ?_
        show Steps p.tables e below (T5.setTop (mkF m 29 #[.val (.ref a)] [(.int (0 : Int32))])) _
        exact retOut X5 hx Bd.returns rfl (Or.inl ⟨rfl, Or.inr (Or.inl rfl), _, rfl⟩) (hb hby d_prog_1_method_3_code_29) hretL
      · show Q_rmadt Z a r1 r2 z1 z2 h0 n0 _ T5.heap _
        rw [eq5]
        exact ⟨by simp [adm, hz1, hz2], N6, rfl⟩
  · rcases hL2 with ⟨E2, hz2⟩ | ⟨t2, kt2, n2, vs2, E2, Fe2, At2, hz2⟩
    · obtain ⟨T7, X7, e7, st7⟩ := getF X0 hx hZ hown (host := "") (Or.inl (ow187 hw)) Via.refl e0 F1 (g := (mkF m 1 #[.val (.ref a)] [(.ref a)])) rfl rfl (hb hby d_prog_1_method_3_code_1)
      obtain ⟨cq8, kq8, q8a, q8b, q8c⟩ := isOf hZ e7 E1
      obtain ⟨_, _, ⟨T8, L8, k8, n8⟩, -, X8, ⟨Lc8, hQ8, l8, y8, z8⟩, st8⟩ := X7.interfaceBack hx (xi := (⟨"java/util/List", "isEmpty", "()Z"⟩ : MethodName)) (y := (⟨"java/util/ImmutableCollections$ListN", "isEmpty", "()Z"⟩ : MethodName)) hown (mvT hZ (ow196 hw)) (mvT hZ (ow197 hw)) (mvT hZ (ow198 hw)) (mvT hZ (ow199 hw)) (mvT hZ (ow200 hw)) (mvT hZ (ow201 hw)) (mvT hZ (ow202 hw)) (mvT hZ (ow203 hw)) (by decide) (backOf (W := 0) (rmeN l Z a0 hw [] r1 t1 kt1 n1 vs1 h0 n0 O0 Fe1 At1) hZ (ow204 hw) (ow164 hw) (by decide) (by decide)) q8a q8b q8c (g := (mkF m 4 #[.val (.ref a)] [(.ref r1)])) rfl (by rw [hml]; rfl) (Steps.refl _) (argsL := []) (rest := []) (lenOf pd12 rfl) rfl (by show 2 * 0 + _ ≤ _; exact Nat.le_of_eq rfl) (hb hby d_prog_1_method_3_code_4) (fun _ _ => ⟨rfl, e7, (by decide : 0 + 0 ≤ _), (by decide : 0 + 0 ≤ _)⟩)
      dsimp only [Pt.U, Pt.locs, Pt.cells, Pt.slots] at X8 l8 y8 z8 st8 hQ8
      subst l8 y8 z8
      obtain ⟨rfl, Nq8, eq8⟩ := hQ8
      have N9 := Fr.app N0 Nq8
      have pre10 : ∀ tgt, Steps p.tables e below (T8.setTop (mkF m 9 #[.val (.ref a)] [(.int (iz n1))])) tgt → Steps p.tables e below (s₁.setTop (entryFrame m #[(.ref a)] 1)) tgt := by
        intro tgt kgo
        refine pre0 _ ?_
        refine XS.aloadN X0.here hx rfl (hb hby d_prog_1_method_3_code_0) rfl rfl ?_
        show Steps p.tables e below (s₁.setTop (mkF m 1 #[.val (.ref a)] [(.ref a)])) _
        refine st7 _ ?_
        show Steps p.tables e below (T7.setTop (mkF m 4 #[.val (.ref a)] [(.ref r1)])) _
        refine st8.trans ?_
        show Steps p.tables e below (T8.setTop (mkF m 9 #[.val (.ref a)] [(.int (iz n1))])) _
        exact kgo
      by_cases hc9_11 : (iz n1) = (0 : Int32)
      · obtain ⟨fs, hretL, hrun, hended, hW, hsame⟩ := X8.leave (v := some (.int (0 : Int32))) (fun h => by rw [Bd.returns] at h; cases h)
        refine ⟨_, _, pre10 _ ?_, hrun, hended, _, _, rfl, ?_, ⟨_, rfl⟩, hW, hsame.mono (by decide) (by decide)⟩
        · refine XS.ifYes X8.here hx rfl (pc0 := 9) (pc' := 28) rfl (hb hby d_prog_1_method_3_code_9) rfl ((if0 _ _).trans (teq hc9_11).1) (by decide) (by decide) ?_
          show Steps p.tables e below (T8.setTop (mkF m 28 #[.val (.ref a)] [])) _
          refine XS.iconst X8.here hx rfl (hb hby d_prog_1_method_3_code_28) ?_
          show Steps p.tables e below (T8.setTop (mkF m 29 #[.val (.ref a)] [(.int (0 : Int32))])) _
          exact retOut X8 hx Bd.returns rfl (Or.inl ⟨rfl, Or.inr (Or.inl rfl), _, rfl⟩) (hb hby d_prog_1_method_3_code_29) hretL
        · show Q_rmadt Z a r1 r2 z1 z2 h0 n0 _ T8.heap _
          rw [eq8]
          exact ⟨by simp [adm, hz1, hz2, hc9_11], N9, rfl⟩
      · obtain ⟨T12, X12, e12, st12⟩ := getF X8 hx hZ hown (host := "") (Or.inl (ow189 hw)) Via.refl eq8 F2 (g := (mkF m 13 #[.val (.ref a)] [(.ref a)])) rfl rfl (hb hby d_prog_1_method_3_code_13)
        obtain ⟨cq13, kq13, q13a, q13b, q13c⟩ := isOf hZ e12 E2
        obtain ⟨_, _, ⟨T13, L13, k13, n13⟩, -, X13, ⟨Lc13, hQ13, l13, y13, z13⟩, st13⟩ := X12.interfaceBack hx (xi := (⟨"java/util/List", "isEmpty", "()Z"⟩ : MethodName)) (y := (⟨"java/util/ImmutableCollections$List12", "isEmpty", "()Z"⟩ : MethodName)) hown (mvT hZ (ow196 hw)) (mvT hZ (ow197 hw)) (mvT hZ (ow198 hw)) (mvT hZ (ow226 hw)) (mvT hZ (ow227 hw)) (mvT hZ (ow228 hw)) (mvT hZ (ow229 hw)) (mvT hZ (ow230 hw)) (by decide) (backOf (W := 0) (rme12 l Z a0 hw [] r2  h0 n0 O0 ) hZ (ow231 hw) (ow208 hw) (by decide) (by decide)) q13a q13b q13c (g := (mkF m 16 #[.val (.ref a)] [(.ref r2)])) rfl (by rw [hml]; rfl) (Steps.refl _) (argsL := []) (rest := []) (lenOf pd12 rfl) rfl (by show 2 * 0 + _ ≤ _; exact Nat.le_of_eq rfl) (hb hby d_prog_1_method_3_code_16) (fun _ _ => ⟨rfl, e12, (by decide : 0 + 0 ≤ _), (by decide : 0 + 0 ≤ _)⟩)
        dsimp only [Pt.U, Pt.locs, Pt.cells, Pt.slots] at X13 l13 y13 z13 st13 hQ13
        subst l13 y13 z13
        obtain ⟨rfl, Nq13, eq13⟩ := hQ13
        have N14 := Fr.app N9 Nq13
        obtain ⟨fs, hretL, hrun, hended, hW, hsame⟩ := X13.leave (v := some (.int (0 : Int32))) (fun h => by rw [Bd.returns] at h; cases h)
        refine ⟨_, _, pre10 _ ?_, hrun, hended, _, _, rfl, ?_, ⟨_, rfl⟩, hW, hsame.mono (by decide) (by decide)⟩
        · refine XS.ifNo X8.here hx rfl (hb hby d_prog_1_method_3_code_9) rfl ((if0 _ _).trans (feq hc9_11).1) ?_
          show Steps p.tables e below (T8.setTop (mkF m 12 #[.val (.ref a)] [])) _
          refine XS.aloadN X8.here hx rfl (hb hby d_prog_1_method_3_code_12) rfl rfl ?_
          show Steps p.tables e below (T8.setTop (mkF m 13 #[.val (.ref a)] [(.ref a)])) _
          refine st12 _ ?_
          show Steps p.tables e below (T12.setTop (mkF m 16 #[.val (.ref a)] [(.ref r2)])) _
          refine st13.trans ?_
          show Steps p.tables e below (T13.setTop (mkF m 21 #[.val (.ref a)] [(.int (0 : Int32))])) _
          refine XS.ifYes X13.here hx rfl (pc0 := 21) (pc' := 28) rfl (hb hby d_prog_1_method_3_code_21) rfl ((if0 _ _).trans (teq (by decide : (0 : Int32) = (0 : Int32))).1) (by decide) (by decide) ?_
          show Steps p.tables e below (T13.setTop (mkF m 28 #[.val (.ref a)] [])) _
          refine XS.iconst X13.here hx rfl (hb hby d_prog_1_method_3_code_28) ?_
          show Steps p.tables e below (T13.setTop (mkF m 29 #[.val (.ref a)] [(.int (0 : Int32))])) _
          exact retOut X13 hx Bd.returns rfl (Or.inl ⟨rfl, Or.inr (Or.inl rfl), _, rfl⟩) (hb hby d_prog_1_method_3_code_29) hretL
        · show Q_rmadt Z a r1 r2 z1 z2 h0 n0 _ T13.heap _
          rw [eq13]
          exact ⟨by simp [adm, hz1, hz2, hc9_11], N14, rfl⟩
    · obtain ⟨T15, X15, e15, st15⟩ := getF X0 hx hZ hown (host := "") (Or.inl (ow187 hw)) Via.refl e0 F1 (g := (mkF m 1 #[.val (.ref a)] [(.ref a)])) rfl rfl (hb hby d_prog_1_method_3_code_1)
      obtain ⟨cq16, kq16, q16a, q16b, q16c⟩ := isOf hZ e15 E1
      obtain ⟨_, _, ⟨T16, L16, k16, n16⟩, -, X16, ⟨Lc16, hQ16, l16, y16, z16⟩, st16⟩ := X15.interfaceBack hx (xi := (⟨"java/util/List", "isEmpty", "()Z"⟩ : MethodName)) (y := (⟨"java/util/ImmutableCollections$ListN", "isEmpty", "()Z"⟩ : MethodName)) hown (mvT hZ (ow196 hw)) (mvT hZ (ow197 hw)) (mvT hZ (ow198 hw)) (mvT hZ (ow199 hw)) (mvT hZ (ow200 hw)) (mvT hZ (ow201 hw)) (mvT hZ (ow202 hw)) (mvT hZ (ow203 hw)) (by decide) (backOf (W := 0) (rmeN l Z a0 hw [] r1 t1 kt1 n1 vs1 h0 n0 O0 Fe1 At1) hZ (ow204 hw) (ow164 hw) (by decide) (by decide)) q16a q16b q16c (g := (mkF m 4 #[.val (.ref a)] [(.ref r1)])) rfl (by rw [hml]; rfl) (Steps.refl _) (argsL := []) (rest := []) (lenOf pd12 rfl) rfl (by show 2 * 0 + _ ≤ _; exact Nat.le_of_eq rfl) (hb hby d_prog_1_method_3_code_4) (fun _ _ => ⟨rfl, e15, (by decide : 0 + 0 ≤ _), (by decide : 0 + 0 ≤ _)⟩)
      dsimp only [Pt.U, Pt.locs, Pt.cells, Pt.slots] at X16 l16 y16 z16 st16 hQ16
      subst l16 y16 z16
      obtain ⟨rfl, Nq16, eq16⟩ := hQ16
      have N17 := Fr.app N0 Nq16
      have pre18 : ∀ tgt, Steps p.tables e below (T16.setTop (mkF m 9 #[.val (.ref a)] [(.int (iz n1))])) tgt → Steps p.tables e below (s₁.setTop (entryFrame m #[(.ref a)] 1)) tgt := by
        intro tgt kgo
        refine pre0 _ ?_
        refine XS.aloadN X0.here hx rfl (hb hby d_prog_1_method_3_code_0) rfl rfl ?_
        show Steps p.tables e below (s₁.setTop (mkF m 1 #[.val (.ref a)] [(.ref a)])) _
        refine st15 _ ?_
        show Steps p.tables e below (T15.setTop (mkF m 4 #[.val (.ref a)] [(.ref r1)])) _
        refine st16.trans ?_
        show Steps p.tables e below (T16.setTop (mkF m 9 #[.val (.ref a)] [(.int (iz n1))])) _
        exact kgo
      by_cases hc9_19 : (iz n1) = (0 : Int32)
      · obtain ⟨fs, hretL, hrun, hended, hW, hsame⟩ := X16.leave (v := some (.int (0 : Int32))) (fun h => by rw [Bd.returns] at h; cases h)
        refine ⟨_, _, pre18 _ ?_, hrun, hended, _, _, rfl, ?_, ⟨_, rfl⟩, hW, hsame.mono (by decide) (by decide)⟩
        · refine XS.ifYes X16.here hx rfl (pc0 := 9) (pc' := 28) rfl (hb hby d_prog_1_method_3_code_9) rfl ((if0 _ _).trans (teq hc9_19).1) (by decide) (by decide) ?_
          show Steps p.tables e below (T16.setTop (mkF m 28 #[.val (.ref a)] [])) _
          refine XS.iconst X16.here hx rfl (hb hby d_prog_1_method_3_code_28) ?_
          show Steps p.tables e below (T16.setTop (mkF m 29 #[.val (.ref a)] [(.int (0 : Int32))])) _
          exact retOut X16 hx Bd.returns rfl (Or.inl ⟨rfl, Or.inr (Or.inl rfl), _, rfl⟩) (hb hby d_prog_1_method_3_code_29) hretL
        · show Q_rmadt Z a r1 r2 z1 z2 h0 n0 _ T16.heap _
          rw [eq16]
          exact ⟨by simp [adm, hz1, hz2, hc9_19], N17, rfl⟩
      · obtain ⟨T20, X20, e20, st20⟩ := getF X16 hx hZ hown (host := "") (Or.inl (ow189 hw)) Via.refl eq16 F2 (g := (mkF m 13 #[.val (.ref a)] [(.ref a)])) rfl rfl (hb hby d_prog_1_method_3_code_13)
        obtain ⟨cq21, kq21, q21a, q21b, q21c⟩ := isOf hZ e20 E2
        obtain ⟨_, _, ⟨T21, L21, k21, n21⟩, -, X21, ⟨Lc21, hQ21, l21, y21, z21⟩, st21⟩ := X20.interfaceBack hx (xi := (⟨"java/util/List", "isEmpty", "()Z"⟩ : MethodName)) (y := (⟨"java/util/ImmutableCollections$ListN", "isEmpty", "()Z"⟩ : MethodName)) hown (mvT hZ (ow196 hw)) (mvT hZ (ow197 hw)) (mvT hZ (ow198 hw)) (mvT hZ (ow199 hw)) (mvT hZ (ow200 hw)) (mvT hZ (ow201 hw)) (mvT hZ (ow202 hw)) (mvT hZ (ow203 hw)) (by decide) (backOf (W := 0) (rmeN l Z a0 hw [] r2 t2 kt2 n2 vs2 h0 n0 O0 Fe2 At2) hZ (ow204 hw) (ow164 hw) (by decide) (by decide)) q21a q21b q21c (g := (mkF m 16 #[.val (.ref a)] [(.ref r2)])) rfl (by rw [hml]; rfl) (Steps.refl _) (argsL := []) (rest := []) (lenOf pd12 rfl) rfl (by show 2 * 0 + _ ≤ _; exact Nat.le_of_eq rfl) (hb hby d_prog_1_method_3_code_16) (fun _ _ => ⟨rfl, e20, (by decide : 0 + 0 ≤ _), (by decide : 0 + 0 ≤ _)⟩)
        dsimp only [Pt.U, Pt.locs, Pt.cells, Pt.slots] at X21 l21 y21 z21 st21 hQ21
        subst l21 y21 z21
        obtain ⟨rfl, Nq21, eq21⟩ := hQ21
        have N22 := Fr.app N17 Nq21
        have pre23 : ∀ tgt, Steps p.tables e below (T21.setTop (mkF m 21 #[.val (.ref a)] [(.int (iz n2))])) tgt → Steps p.tables e below (s₁.setTop (entryFrame m #[(.ref a)] 1)) tgt := by
          intro tgt kgo
          refine pre18 _ ?_
          refine XS.ifNo X16.here hx rfl (hb hby d_prog_1_method_3_code_9) rfl ((if0 _ _).trans (feq hc9_19).1) ?_
          show Steps p.tables e below (T16.setTop (mkF m 12 #[.val (.ref a)] [])) _
          refine XS.aloadN X16.here hx rfl (hb hby d_prog_1_method_3_code_12) rfl rfl ?_
          show Steps p.tables e below (T16.setTop (mkF m 13 #[.val (.ref a)] [(.ref a)])) _
          refine st20 _ ?_
          show Steps p.tables e below (T20.setTop (mkF m 16 #[.val (.ref a)] [(.ref r2)])) _
          refine st21.trans ?_
          show Steps p.tables e below (T21.setTop (mkF m 21 #[.val (.ref a)] [(.int (iz n2))])) _
          exact kgo
        by_cases hc21_24 : (iz n2) = (0 : Int32)
        · obtain ⟨fs, hretL, hrun, hended, hW, hsame⟩ := X21.leave (v := some (.int (0 : Int32))) (fun h => by rw [Bd.returns] at h; cases h)
          refine ⟨_, _, pre23 _ ?_, hrun, hended, _, _, rfl, ?_, ⟨_, rfl⟩, hW, hsame.mono (by decide) (by decide)⟩
          · refine XS.ifYes X21.here hx rfl (pc0 := 21) (pc' := 28) rfl (hb hby d_prog_1_method_3_code_21) rfl ((if0 _ _).trans (teq hc21_24).1) (by decide) (by decide) ?_
            show Steps p.tables e below (T21.setTop (mkF m 28 #[.val (.ref a)] [])) _
            refine XS.iconst X21.here hx rfl (hb hby d_prog_1_method_3_code_28) ?_
            show Steps p.tables e below (T21.setTop (mkF m 29 #[.val (.ref a)] [(.int (0 : Int32))])) _
            exact retOut X21 hx Bd.returns rfl (Or.inl ⟨rfl, Or.inr (Or.inl rfl), _, rfl⟩) (hb hby d_prog_1_method_3_code_29) hretL
          · show Q_rmadt Z a r1 r2 z1 z2 h0 n0 _ T21.heap _
            rw [eq21]
            exact ⟨by simp [adm, hz1, hz2, hc9_19, hc21_24], N22, rfl⟩
        · obtain ⟨fs, hretL, hrun, hended, hW, hsame⟩ := X21.leave (v := some (.int (1 : Int32))) (fun h => by rw [Bd.returns] at h; cases h)
          refine ⟨_, _, pre23 _ ?_, hrun, hended, _, _, rfl, ?_, ⟨_, rfl⟩, hW, hsame.mono (by decide) (by decide)⟩
          · refine XS.ifNo X21.here hx rfl (hb hby d_prog_1_method_3_code_21) rfl ((if0 _ _).trans (feq hc21_24).1) ?_
            show Steps p.tables e below (T21.setTop (mkF m 24 #[.val (.ref a)] [])) _
            refine XS.iconst X21.here hx rfl (hb hby d_prog_1_method_3_code_24) ?_
            show Steps p.tables e below (T21.setTop (mkF m 25 #[.val (.ref a)] [(.int (1 : Int32))])) _
            refine XS.goto X21.here hx rfl (pc0 := 25) (pc' := 29) rfl (hb hby d_prog_1_method_3_code_25) (by decide) (by decide) ?_
            show Steps p.tables e below (T21.setTop (mkF m 29 #[.val (.ref a)] [(.int (1 : Int32))])) _
            exact retOut X21 hx Bd.returns rfl (Or.inl ⟨rfl, Or.inr (Or.inl rfl), _, rfl⟩) (hb hby d_prog_1_method_3_code_29) hretL
          · show Q_rmadt Z a r1 r2 z1 z2 h0 n0 _ T21.heap _
            rw [eq21]
            exact ⟨by simp [adm, hz1, hz2, hc9_19, hc21_24], N22, rfl⟩
def Q_rm0 (Z : State) (x0 : Int32) (x1 : Int32) (de : Addr) (kde : ClassId) (el : Addr) (tel : Addr) (kel : ClassId) (em : Addr) (mr : Addr) (h0 : Heap) (n0 : Nat) (v : Option Value) (h : Heap) (L : List Loc) : Prop := v = some (.int (1 : Int32)) ∧ Fr n0 L
theorem ef_rm0 (m : MethodId) (x0 : Int32) (x1 : Int32) : entryFrame m #[(.int x0), (.int x1)] maxLocals = mkF m 0 #[.val (.int x0), .val (.int x1), .unset, .unset, .unset, .unset, .unset, .unset, .unset, .unset] [] := by first | (simp [entryFrame, mkF, argsToLocals, Value.category, maxLocals]; done) | rfl
set_option maxRecDepth 65536 in
set_option maxHeartbeats 40000000 in
theorem rm0 (l : Launch) (Z : State) (a0 : Array Value) (hw : ∀ d ∈ tables_1, d.before a0 Z = true) (ws : List Jvm.Cond) (x0 : Int32) (x1 : Int32) (de : Addr) (kde : ClassId) (el : Addr) (tel : Addr) (kel : ClassId) (em : Addr) (mr : Addr) (h0 : Heap) (n0 : Nat) (O0 : Old Z n0 h0) (Sde : Sta Z Z.heap "java/util/ArrayList" "DEFAULTCAPACITY_EMPTY_ELEMENTDATA" "[Ljava/lang/Object;" (.ref de)) (Ade : Arv Z Z.heap de kde (.object "java/lang/Object") (0 : Int32) [] .null) (Sel : Sta Z Z.heap "java/util/ImmutableCollections" "EMPTY_LIST" "Ljava/util/ImmutableCollections$ListN;" (.ref el)) (Sem : Sta Z Z.heap "java/util/ImmutableCollections" "EMPTY" "Ljava/lang/Object;" (.ref em)) (hM : MM Z "[Ljava/lang/Object;" mr) (Eel : Exa Z Z.heap el "java/util/ImmutableCollections$ListN") (Fel : Fld Z Z.heap el "java/util/ImmutableCollections$ListN" "elements" "[Ljava/lang/Object;" (.ref tel)) (Ael : Arv Z Z.heap tel kel (.object "java/lang/Object") (0 : Int32) [] .null) :
    MetFree l x (head1 (Jvm.Cond.code x code maxLocals ret :: ws) room_1) (fun aa U => aa = #[(.int x0), (.int x1)] ∧ Z.Warmed39 U.vm ∧ U.heap = h0) (fun _ _ _ _ _ => True) (fun _ U o U' => ∃ v L, o = .returned v ∧ Q_rm0 Z x0 x1 de kde el tel kel em mr h0 n0 v U'.heap L ∧ FrameEnd U o U' L 13 50) := by
  refine MetFree.of_bodySF (plainFor_of_name pn15) hisR ?_
  intro p e s m args below meth c s₁ Bd hml0 hP hK
  obtain ⟨rfl, hZ, hh⟩ := hP
  have hx := Bd.exec
  have hby := Bd.bytes
  have hml : c.maxLocals = 10 := hml0
  have hown : s.vm.findClass "com/example/atropos/atropos/analysis/AdmissionAdmitsPinLaw" = some m.cls := findClass_of_methodNamed Bd.named
  have hnm := (name_of_methodNamed Bd.named Bd.method).1
  have X0 : Stand p l e room_1 s m #[(.int x0), (.int x1)] below meth c s₁ [] 0 0 := Stand.of_body Bd
  have e0 : s₁.heap = h0 := by rw [← hh, Bd.state]; rfl
  have N0 := Fr.nil n0
  have pre0 : ∀ tgt, Steps p.tables e below (s₁.setTop (mkF m 0 #[.val (.int x0), .val (.int x1), .unset, .unset, .unset, .unset, .unset, .unset, .unset, .unset] [])) tgt → Steps p.tables e below (s₁.setTop (entryFrame m #[(.int x0), (.int x1)] maxLocals)) tgt := fun tgt kgo => castTop (ef_rm0 m x0 x1) kgo
  obtain ⟨T1, h1, X1, e1, E1, A1, D1, U1, st1⟩ := newO X0 hx hZ hown (ow0 hw) (ow1 hw) (ow2 hw) e0 (g := (mkF m 8 #[.val (.int x0), .val (.int x1), .val (.int (x0 &&& (3 : Int32))), .val (.int (x1 &&& (3 : Int32))), .unset, .unset, .unset, .unset, .unset, .unset] [])) rfl (hb hby at_8) (by decide) (by decide)
  obtain ⟨b1, g1⟩ : ∃ z, z = h0.size := ⟨_, rfl⟩
  rw [← g1] at A1 D1 U1 st1
  have gn1 : n0 ≤ b1 := Nat.le_trans (own_sz O0) (Nat.le_of_eq g1.symm)
  have Ol2 := O0.ext E1
  have Fstart_1 : Fld Z h1 b1 "com/example/atropos/atropos/ops/Excess$Span" "start" "Lcom/example/atropos/atropos/model/Rational;" .null := D1 (Or.inr (ow15 hw)) (ty := (.object "com/example/atropos/atropos/model/Rational")) (by decide)
  have Fend_1 : Fld Z h1 b1 "com/example/atropos/atropos/ops/Excess$Span" "end" "Lcom/example/atropos/atropos/model/Rational;" .null := D1 (Or.inr (ow17 hw)) (ty := (.object "com/example/atropos/atropos/model/Rational")) (by decide)
  obtain ⟨_, _, ⟨T3, L3, k3, n3⟩, -, X3, ⟨Lc3, hQ3, l3, y3, z3⟩, st3⟩ := X1.specialBack hx (y := (⟨"com/example/atropos/atropos/ops/Excess$Span", "<init>", "(Lcom/example/atropos/atropos/model/Rational;Lcom/example/atropos/atropos/model/Rational;)V"⟩ : MethodName)) rfl hown (mvT hZ (ow3 hw)) (mvT hZ (ow4 hw)) (mvT hZ (ow5 hw)) (by decide) (backOf (W := 1) (rmspn l Z a0 hw [] b1  h1 n0 Ol2 A1 Fstart_1 Fend_1 gn1) hZ (ow5 hw) (ow2 hw) (by decide) (by decide)) (g := (mkF m 14 #[.val (.int x0), .val (.int x1), .val (.int (x0 &&& (3 : Int32))), .val (.int (x1 &&& (3 : Int32))), .unset, .unset, .unset, .unset, .unset, .unset] [.null, .null, (.ref b1), (.ref b1)])) rfl (by rw [hml]; rfl) (Steps.refl _) (a := b1) (argsL := [.null, .null]) (rest := [(.ref b1)]) (lenOf pd15 rfl) rfl (by show 2 * 0 + _ ≤ _; exact Nat.le_of_eq rfl) (hb hby at_14) (fun _ _ => ⟨rfl, e1, (by decide : 1 + 0 ≤ _), (by decide : 2 + 0 ≤ _)⟩)
  dsimp only [Pt.U, Pt.locs, Pt.cells, Pt.slots] at X3 l3 y3 z3 st3 hQ3
  subst l3 y3 z3
  obtain ⟨rfl, Nq3, kp3⟩ := hQ3
  have N4 := Fr.app N0 Nq3
  have Ol5 := Ol2.keep kp3 (allS gn1 all0)
  have f6 := (A1.keep kp3)
  obtain ⟨T7, h7, X7, e7, E7, A7, D7, U7, st7⟩ := newO X3 hx hZ hown (ow18 hw) (ow19 hw) (ow20 hw) rfl (g := (mkF m 19 #[.val (.int x0), .val (.int x1), .val (.int (x0 &&& (3 : Int32))), .val (.int (x1 &&& (3 : Int32))), .val (.ref b1), .unset, .unset, .unset, .unset, .unset] [])) rfl (hb hby at_19) (by decide) (by decide)
  obtain ⟨b7, g7⟩ : ∃ z, z = T3.heap.size := ⟨_, rfl⟩
  rw [← g7] at A7 D7 U7 st7
  have gn7 : n0 ≤ b7 := Nat.le_trans (own_sz Ol5) (Nat.le_of_eq g7.symm)
  have neb1_7 : b1 ≠ b7 := Nat.ne_of_lt (Nat.lt_of_lt_of_le f6.lt (Nat.le_of_eq g7.symm))
  have Ol8 := Ol5.ext E7
  have Fstart_7 : Fld Z h7 b7 "com/example/atropos/atropos/ops/Excess$Rate" "start" "Lcom/example/atropos/atropos/model/Rational;" .null := D7 (Or.inr (ow26 hw)) (ty := (.object "com/example/atropos/atropos/model/Rational")) (by decide)
  have Fend_7 : Fld Z h7 b7 "com/example/atropos/atropos/ops/Excess$Rate" "end" "Lcom/example/atropos/atropos/model/Rational;" .null := D7 (Or.inr (ow28 hw)) (ty := (.object "com/example/atropos/atropos/model/Rational")) (by decide)
  have Fslope_7 : Fld Z h7 b7 "com/example/atropos/atropos/ops/Excess$Rate" "slope" "Lcom/example/atropos/atropos/model/Rational;" .null := D7 (Or.inr (ow30 hw)) (ty := (.object "com/example/atropos/atropos/model/Rational")) (by decide)
  have Fbound_7 : Fld Z h7 b7 "com/example/atropos/atropos/ops/Excess$Rate" "bound" "Lcom/example/atropos/atropos/model/Rational;" .null := D7 (Or.inr (ow32 hw)) (ty := (.object "com/example/atropos/atropos/model/Rational")) (by decide)
  obtain ⟨_, _, ⟨T9, L9, k9, n9⟩, -, X9, ⟨Lc9, hQ9, l9, y9, z9⟩, st9⟩ := X7.specialBack hx (y := (⟨"com/example/atropos/atropos/ops/Excess$Rate", "<init>", "(Lcom/example/atropos/atropos/model/Rational;Lcom/example/atropos/atropos/model/Rational;Lcom/example/atropos/atropos/model/Rational;Lcom/example/atropos/atropos/model/Rational;)V"⟩ : MethodName)) rfl hown (mvT hZ (ow21 hw)) (mvT hZ (ow22 hw)) (mvT hZ (ow23 hw)) (by decide) (backOf (W := 1) (rmrat l Z a0 hw [] b7  h7 n0 Ol8 A7 Fstart_7 Fend_7 Fslope_7 Fbound_7 gn7) hZ (ow23 hw) (ow20 hw) (by decide) (by decide)) (g := (mkF m 27 #[.val (.int x0), .val (.int x1), .val (.int (x0 &&& (3 : Int32))), .val (.int (x1 &&& (3 : Int32))), .val (.ref b1), .unset, .unset, .unset, .unset, .unset] [.null, .null, .null, .null, (.ref b7), (.ref b7)])) rfl (by rw [hml]; rfl) (Steps.refl _) (a := b7) (argsL := [.null, .null, .null, .null]) (rest := [(.ref b7)]) (lenOf pd16 rfl) rfl (by show 2 * 0 + _ ≤ _; exact Nat.le_of_eq rfl) (hb hby at_27) (fun _ _ => ⟨rfl, e7, (by decide : 2 + 0 ≤ _), (by decide : 6 + 0 ≤ _)⟩)
  dsimp only [Pt.U, Pt.locs, Pt.cells, Pt.slots] at X9 l9 y9 z9 st9 hQ9
  subst l9 y9 z9
  obtain ⟨rfl, Nq9, kp9⟩ := hQ9
  have N10 := Fr.app N4 Nq9
  have Ol11 := Ol8.keep kp9 (allS gn7 all0)
  have f12 := ((f6.ext E7).keep kp9)
  have f13 := (A7.keep kp9)
  obtain ⟨T14, h14, X14, e14, E14, A14, D14, U14, st14⟩ := newO X9 hx hZ hown (ow33 hw) (ow34 hw) (ow35 hw) rfl (g := (mkF m 32 #[.val (.int x0), .val (.int x1), .val (.int (x0 &&& (3 : Int32))), .val (.int (x1 &&& (3 : Int32))), .val (.ref b1), .val (.ref b7), .unset, .unset, .unset, .unset] [])) rfl (hb hby at_32) (by decide) (by decide)
  obtain ⟨b14, g14⟩ : ∃ z, z = T9.heap.size := ⟨_, rfl⟩
  rw [← g14] at A14 D14 U14 st14
  have gn14 : n0 ≤ b14 := Nat.le_trans (own_sz Ol11) (Nat.le_of_eq g14.symm)
  have neb1_14 : b1 ≠ b14 := Nat.ne_of_lt (Nat.lt_of_lt_of_le f12.lt (Nat.le_of_eq g14.symm))
  have neb7_14 : b7 ≠ b14 := Nat.ne_of_lt (Nat.lt_of_lt_of_le f13.lt (Nat.le_of_eq g14.symm))
  have Ol15 := Ol11.ext E14
  have FmodCount_14 : Fld Z h14 b14 "java/util/AbstractList" "modCount" "I" (.int (0 : Int32)) := D14 (Or.inl (ow53 hw)) (ty := .int) (by decide)
  have FelementData_14 : Fld Z h14 b14 "java/util/ArrayList" "elementData" "[Ljava/lang/Object;" .null := D14 (Or.inl (ow56 hw)) (ty := (.array (.object "java/lang/Object"))) (by decide)
  have Fsize_14 : Fld Z h14 b14 "java/util/ArrayList" "size" "I" (.int (0 : Int32)) := D14 (Or.inl (ow65 hw)) (ty := .int) (by decide)
  obtain ⟨_, _, ⟨T16, L16, k16, n16⟩, -, X16, ⟨Lc16, hQ16, l16, y16, z16⟩, st16⟩ := X14.specialBack hx (y := (⟨"java/util/ArrayList", "<init>", "()V"⟩ : MethodName)) rfl hown (mvT hZ (ow36 hw)) (mvT hZ (ow37 hw)) (mvT hZ (ow38 hw)) (by decide) (backOf (W := 1) (rmali l Z a0 hw [] b14 de h14 n0 Ol15 Sde A14 FmodCount_14 Fsize_14 FelementData_14 gn14) hZ (ow38 hw) (ow35 hw) (by decide) (by decide)) (g := (mkF m 36 #[.val (.int x0), .val (.int x1), .val (.int (x0 &&& (3 : Int32))), .val (.int (x1 &&& (3 : Int32))), .val (.ref b1), .val (.ref b7), .unset, .unset, .unset, .unset] [(.ref b14), (.ref b14)])) rfl (by rw [hml]; rfl) (Steps.refl _) (a := b14) (argsL := []) (rest := [(.ref b14)]) (lenOf pd0 rfl) rfl (by show 2 * 0 + _ ≤ _; exact Nat.le_of_eq rfl) (hb hby at_36) (fun _ _ => ⟨rfl, e14, (by decide : 3 + 0 ≤ _), (by decide : 9 + 0 ≤ _)⟩)
  dsimp only [Pt.U, Pt.locs, Pt.cells, Pt.slots] at X16 l16 y16 z16 st16 hQ16
  subst l16 y16 z16
  obtain ⟨rfl, Nq16, kp16, gm16, gs16, ge16⟩ := hQ16
  have N17 := Fr.app N10 Nq16
  have Ol18 := Ol15.keep kp16 (allS gn14 all0)
  have f19 := ((f12.ext E14).keep kp16)
  have f20 := ((f13.ext E14).keep kp16)
  have f21 := (A14.keep kp16)
  obtain ⟨T22, h22, X22, e22, E22, A22, D22, U22, st22⟩ := newO X16 hx hZ hown (ow33 hw) (ow34 hw) (ow35 hw) rfl (g := (mkF m 41 #[.val (.int x0), .val (.int x1), .val (.int (x0 &&& (3 : Int32))), .val (.int (x1 &&& (3 : Int32))), .val (.ref b1), .val (.ref b7), .val (.ref b14), .unset, .unset, .unset] [])) rfl (hb hby at_41) (by decide) (by decide)
  obtain ⟨b22, g22⟩ : ∃ z, z = T16.heap.size := ⟨_, rfl⟩
  rw [← g22] at A22 D22 U22 st22
  have gn22 : n0 ≤ b22 := Nat.le_trans (own_sz Ol18) (Nat.le_of_eq g22.symm)
  have neb1_22 : b1 ≠ b22 := Nat.ne_of_lt (Nat.lt_of_lt_of_le f19.lt (Nat.le_of_eq g22.symm))
  have neb7_22 : b7 ≠ b22 := Nat.ne_of_lt (Nat.lt_of_lt_of_le f20.lt (Nat.le_of_eq g22.symm))
  have neb14_22 : b14 ≠ b22 := Nat.ne_of_lt (Nat.lt_of_lt_of_le f21.lt (Nat.le_of_eq g22.symm))
  have Ol23 := Ol18.ext E22
  have FmodCount_22 : Fld Z h22 b22 "java/util/AbstractList" "modCount" "I" (.int (0 : Int32)) := D22 (Or.inl (ow53 hw)) (ty := .int) (by decide)
  have FelementData_22 : Fld Z h22 b22 "java/util/ArrayList" "elementData" "[Ljava/lang/Object;" .null := D22 (Or.inl (ow56 hw)) (ty := (.array (.object "java/lang/Object"))) (by decide)
  have Fsize_22 : Fld Z h22 b22 "java/util/ArrayList" "size" "I" (.int (0 : Int32)) := D22 (Or.inl (ow65 hw)) (ty := .int) (by decide)
  obtain ⟨_, _, ⟨T24, L24, k24, n24⟩, -, X24, ⟨Lc24, hQ24, l24, y24, z24⟩, st24⟩ := X22.specialBack hx (y := (⟨"java/util/ArrayList", "<init>", "()V"⟩ : MethodName)) rfl hown (mvT hZ (ow36 hw)) (mvT hZ (ow37 hw)) (mvT hZ (ow38 hw)) (by decide) (backOf (W := 1) (rmali l Z a0 hw [] b22 de h22 n0 Ol23 Sde A22 FmodCount_22 Fsize_22 FelementData_22 gn22) hZ (ow38 hw) (ow35 hw) (by decide) (by decide)) (g := (mkF m 45 #[.val (.int x0), .val (.int x1), .val (.int (x0 &&& (3 : Int32))), .val (.int (x1 &&& (3 : Int32))), .val (.ref b1), .val (.ref b7), .val (.ref b14), .unset, .unset, .unset] [(.ref b22), (.ref b22)])) rfl (by rw [hml]; rfl) (Steps.refl _) (a := b22) (argsL := []) (rest := [(.ref b22)]) (lenOf pd0 rfl) rfl (by show 2 * 0 + _ ≤ _; exact Nat.le_of_eq rfl) (hb hby at_45) (fun _ _ => ⟨rfl, e22, (by decide : 4 + 0 ≤ _), (by decide : 12 + 0 ≤ _)⟩)
  dsimp only [Pt.U, Pt.locs, Pt.cells, Pt.slots] at X24 l24 y24 z24 st24 hQ24
  subst l24 y24 z24
  obtain ⟨rfl, Nq24, kp24, gm24, gs24, ge24⟩ := hQ24
  have N25 := Fr.app N17 Nq24
  have Ol26 := Ol23.keep kp24 (allS gn22 all0)
  have pre27 : ∀ tgt, Steps p.tables e below (T24.setTop (mkF m 50 #[.val (.int x0), .val (.int x1), .val (.int (x0 &&& (3 : Int32))), .val (.int (x1 &&& (3 : Int32))), .val (.ref b1), .val (.ref b7), .val (.ref b14), .val (.ref b22), .unset, .unset] [])) tgt → Steps p.tables e below (s₁.setTop (entryFrame m #[(.int x0), (.int x1)] maxLocals)) tgt := by
    intro tgt kgo
    refine pre0 _ ?_
    refine XS.iloadN X0.here hx rfl (hb hby at_0) rfl ?_
    show Steps p.tables e below (s₁.setTop (mkF m 1 #[.val (.int x0), .val (.int x1), .unset, .unset, .unset, .unset, .unset, .unset, .unset, .unset] [(.int x0)])) _
    refine XS.iconst X0.here hx rfl (hb hby at_1) ?_
    show Steps p.tables e below (s₁.setTop (mkF m 2 #[.val (.int x0), .val (.int x1), .unset, .unset, .unset, .unset, .unset, .unset, .unset, .unset] [(.int (3 : Int32)), (.int x0)])) _
    refine XS.iand X0.here hx rfl (hb hby at_2) rfl ?_
    show Steps p.tables e below (s₁.setTop (mkF m 3 #[.val (.int x0), .val (.int x1), .unset, .unset, .unset, .unset, .unset, .unset, .unset, .unset] [(.int (x0 &&& (3 : Int32)))])) _
    refine XS.istoreN X0.here hx rfl (hb hby at_3) rfl (l' := #[.val (.int x0), .val (.int x1), .val (.int (x0 &&& (3 : Int32))), .unset, .unset, .unset, .unset, .unset, .unset, .unset]) rfl ?_
    show Steps p.tables e below (s₁.setTop (mkF m 4 #[.val (.int x0), .val (.int x1), .val (.int (x0 &&& (3 : Int32))), .unset, .unset, .unset, .unset, .unset, .unset, .unset] [])) _
    refine XS.iloadN X0.here hx rfl (hb hby at_4) rfl ?_
    show Steps p.tables e below (s₁.setTop (mkF m 5 #[.val (.int x0), .val (.int x1), .val (.int (x0 &&& (3 : Int32))), .unset, .unset, .unset, .unset, .unset, .unset, .unset] [(.int x1)])) _
    refine XS.iconst X0.here hx rfl (hb hby at_5) ?_
    show Steps p.tables e below (s₁.setTop (mkF m 6 #[.val (.int x0), .val (.int x1), .val (.int (x0 &&& (3 : Int32))), .unset, .unset, .unset, .unset, .unset, .unset, .unset] [(.int (3 : Int32)), (.int x1)])) _
    refine XS.iand X0.here hx rfl (hb hby at_6) rfl ?_
    show Steps p.tables e below (s₁.setTop (mkF m 7 #[.val (.int x0), .val (.int x1), .val (.int (x0 &&& (3 : Int32))), .unset, .unset, .unset, .unset, .unset, .unset, .unset] [(.int (x1 &&& (3 : Int32)))])) _
    refine XS.istoreN X0.here hx rfl (hb hby at_7) rfl (l' := #[.val (.int x0), .val (.int x1), .val (.int (x0 &&& (3 : Int32))), .val (.int (x1 &&& (3 : Int32))), .unset, .unset, .unset, .unset, .unset, .unset]) rfl ?_
    show Steps p.tables e below (s₁.setTop (mkF m 8 #[.val (.int x0), .val (.int x1), .val (.int (x0 &&& (3 : Int32))), .val (.int (x1 &&& (3 : Int32))), .unset, .unset, .unset, .unset, .unset, .unset] [])) _
    refine st1 _ ?_
    show Steps p.tables e below (T1.setTop (mkF m 11 #[.val (.int x0), .val (.int x1), .val (.int (x0 &&& (3 : Int32))), .val (.int (x1 &&& (3 : Int32))), .unset, .unset, .unset, .unset, .unset, .unset] [(.ref b1)])) _
    refine XS.dup X1.here hx rfl (hb hby at_11) rfl rfl ?_
    show Steps p.tables e below (T1.setTop (mkF m 12 #[.val (.int x0), .val (.int x1), .val (.int (x0 &&& (3 : Int32))), .val (.int (x1 &&& (3 : Int32))), .unset, .unset, .unset, .unset, .unset, .unset] [(.ref b1), (.ref b1)])) _
    refine XS.aconstNull X1.here hx rfl (hb hby at_12) ?_
    show Steps p.tables e below (T1.setTop (mkF m 13 #[.val (.int x0), .val (.int x1), .val (.int (x0 &&& (3 : Int32))), .val (.int (x1 &&& (3 : Int32))), .unset, .unset, .unset, .unset, .unset, .unset] [.null, (.ref b1), (.ref b1)])) _
    refine XS.aconstNull X1.here hx rfl (hb hby at_13) ?_
    show Steps p.tables e below (T1.setTop (mkF m 14 #[.val (.int x0), .val (.int x1), .val (.int (x0 &&& (3 : Int32))), .val (.int (x1 &&& (3 : Int32))), .unset, .unset, .unset, .unset, .unset, .unset] [.null, .null, (.ref b1), (.ref b1)])) _
    refine st3.trans ?_
    show Steps p.tables e below (T3.setTop (mkF m 17 #[.val (.int x0), .val (.int x1), .val (.int (x0 &&& (3 : Int32))), .val (.int (x1 &&& (3 : Int32))), .unset, .unset, .unset, .unset, .unset, .unset] [(.ref b1)])) _
    refine XS.astore X3.here hx rfl (hb hby at_17) rfl rfl (l' := #[.val (.int x0), .val (.int x1), .val (.int (x0 &&& (3 : Int32))), .val (.int (x1 &&& (3 : Int32))), .val (.ref b1), .unset, .unset, .unset, .unset, .unset]) rfl ?_
    show Steps p.tables e below (T3.setTop (mkF m 19 #[.val (.int x0), .val (.int x1), .val (.int (x0 &&& (3 : Int32))), .val (.int (x1 &&& (3 : Int32))), .val (.ref b1), .unset, .unset, .unset, .unset, .unset] [])) _
    refine st7 _ ?_
    show Steps p.tables e below (T7.setTop (mkF m 22 #[.val (.int x0), .val (.int x1), .val (.int (x0 &&& (3 : Int32))), .val (.int (x1 &&& (3 : Int32))), .val (.ref b1), .unset, .unset, .unset, .unset, .unset] [(.ref b7)])) _
    refine XS.dup X7.here hx rfl (hb hby at_22) rfl rfl ?_
    show Steps p.tables e below (T7.setTop (mkF m 23 #[.val (.int x0), .val (.int x1), .val (.int (x0 &&& (3 : Int32))), .val (.int (x1 &&& (3 : Int32))), .val (.ref b1), .unset, .unset, .unset, .unset, .unset] [(.ref b7), (.ref b7)])) _
    refine XS.aconstNull X7.here hx rfl (hb hby at_23) ?_
    show Steps p.tables e below (T7.setTop (mkF m 24 #[.val (.int x0), .val (.int x1), .val (.int (x0 &&& (3 : Int32))), .val (.int (x1 &&& (3 : Int32))), .val (.ref b1), .unset, .unset, .unset, .unset, .unset] [.null, (.ref b7), (.ref b7)])) _
    refine XS.aconstNull X7.here hx rfl (hb hby at_24) ?_
    show Steps p.tables e below (T7.setTop (mkF m 25 #[.val (.int x0), .val (.int x1), .val (.int (x0 &&& (3 : Int32))), .val (.int (x1 &&& (3 : Int32))), .val (.ref b1), .unset, .unset, .unset, .unset, .unset] [.null, .null, (.ref b7), (.ref b7)])) _
    refine XS.aconstNull X7.here hx rfl (hb hby at_25) ?_
    show Steps p.tables e below (T7.setTop (mkF m 26 #[.val (.int x0), .val (.int x1), .val (.int (x0 &&& (3 : Int32))), .val (.int (x1 &&& (3 : Int32))), .val (.ref b1), .unset, .unset, .unset, .unset, .unset] [.null, .null, .null, (.ref b7), (.ref b7)])) _
    refine XS.aconstNull X7.here hx rfl (hb hby at_26) ?_
    show Steps p.tables e below (T7.setTop (mkF m 27 #[.val (.int x0), .val (.int x1), .val (.int (x0 &&& (3 : Int32))), .val (.int (x1 &&& (3 : Int32))), .val (.ref b1), .unset, .unset, .unset, .unset, .unset] [.null, .null, .null, .null, (.ref b7), (.ref b7)])) _
    refine st9.trans ?_
    show Steps p.tables e below (T9.setTop (mkF m 30 #[.val (.int x0), .val (.int x1), .val (.int (x0 &&& (3 : Int32))), .val (.int (x1 &&& (3 : Int32))), .val (.ref b1), .unset, .unset, .unset, .unset, .unset] [(.ref b7)])) _
    refine XS.astore X9.here hx rfl (hb hby at_30) rfl rfl (l' := #[.val (.int x0), .val (.int x1), .val (.int (x0 &&& (3 : Int32))), .val (.int (x1 &&& (3 : Int32))), .val (.ref b1), .val (.ref b7), .unset, .unset, .unset, .unset]) rfl ?_
    show Steps p.tables e below (T9.setTop (mkF m 32 #[.val (.int x0), .val (.int x1), .val (.int (x0 &&& (3 : Int32))), .val (.int (x1 &&& (3 : Int32))), .val (.ref b1), .val (.ref b7), .unset, .unset, .unset, .unset] [])) _
    refine st14 _ ?_
    show Steps p.tables e below (T14.setTop (mkF m 35 #[.val (.int x0), .val (.int x1), .val (.int (x0 &&& (3 : Int32))), .val (.int (x1 &&& (3 : Int32))), .val (.ref b1), .val (.ref b7), .unset, .unset, .unset, .unset] [(.ref b14)])) _
    refine XS.dup X14.here hx rfl (hb hby at_35) rfl rfl ?_
    show Steps p.tables e below (T14.setTop (mkF m 36 #[.val (.int x0), .val (.int x1), .val (.int (x0 &&& (3 : Int32))), .val (.int (x1 &&& (3 : Int32))), .val (.ref b1), .val (.ref b7), .unset, .unset, .unset, .unset] [(.ref b14), (.ref b14)])) _
    refine st16.trans ?_
    show Steps p.tables e below (T16.setTop (mkF m 39 #[.val (.int x0), .val (.int x1), .val (.int (x0 &&& (3 : Int32))), .val (.int (x1 &&& (3 : Int32))), .val (.ref b1), .val (.ref b7), .unset, .unset, .unset, .unset] [(.ref b14)])) _
    refine XS.astore X16.here hx rfl (hb hby at_39) rfl rfl (l' := #[.val (.int x0), .val (.int x1), .val (.int (x0 &&& (3 : Int32))), .val (.int (x1 &&& (3 : Int32))), .val (.ref b1), .val (.ref b7), .val (.ref b14), .unset, .unset, .unset]) rfl ?_
    show Steps p.tables e below (T16.setTop (mkF m 41 #[.val (.int x0), .val (.int x1), .val (.int (x0 &&& (3 : Int32))), .val (.int (x1 &&& (3 : Int32))), .val (.ref b1), .val (.ref b7), .val (.ref b14), .unset, .unset, .unset] [])) _
    refine st22 _ ?_
    show Steps p.tables e below (T22.setTop (mkF m 44 #[.val (.int x0), .val (.int x1), .val (.int (x0 &&& (3 : Int32))), .val (.int (x1 &&& (3 : Int32))), .val (.ref b1), .val (.ref b7), .val (.ref b14), .unset, .unset, .unset] [(.ref b22)])) _
    refine XS.dup X22.here hx rfl (hb hby at_44) rfl rfl ?_
    show Steps p.tables e below (T22.setTop (mkF m 45 #[.val (.int x0), .val (.int x1), .val (.int (x0 &&& (3 : Int32))), .val (.int (x1 &&& (3 : Int32))), .val (.ref b1), .val (.ref b7), .val (.ref b14), .unset, .unset, .unset] [(.ref b22), (.ref b22)])) _
    refine st24.trans ?_
    show Steps p.tables e below (T24.setTop (mkF m 48 #[.val (.int x0), .val (.int x1), .val (.int (x0 &&& (3 : Int32))), .val (.int (x1 &&& (3 : Int32))), .val (.ref b1), .val (.ref b7), .val (.ref b14), .unset, .unset, .unset] [(.ref b22)])) _
    refine XS.astore X24.here hx rfl (hb hby at_48) rfl rfl (l' := #[.val (.int x0), .val (.int x1), .val (.int (x0 &&& (3 : Int32))), .val (.int (x1 &&& (3 : Int32))), .val (.ref b1), .val (.ref b7), .val (.ref b14), .val (.ref b22), .unset, .unset]) rfl ?_
    show Steps p.tables e below (T24.setTop (mkF m 50 #[.val (.int x0), .val (.int x1), .val (.int (x0 &&& (3 : Int32))), .val (.int (x1 &&& (3 : Int32))), .val (.ref b1), .val (.ref b7), .val (.ref b14), .val (.ref b22), .unset, .unset] [])) _
    exact kgo
  rcases own_and3 x0 with hqx0 | hqx0 | hqx0 | hqx0
  · have pre28 : ∀ tgt, Steps p.tables e below (T24.setTop (mkF m 50 #[.val (.int x0), .val (.int x1), .val (.int (0 : Int32)), .val (.int (x1 &&& (3 : Int32))), .val (.ref b1), .val (.ref b7), .val (.ref b14), .val (.ref b22), .unset, .unset] [])) tgt → Steps p.tables e below (s₁.setTop (entryFrame m #[(.int x0), (.int x1)] maxLocals)) tgt := by
      have q := pre27
      rw [hqx0] at q
      exact q
    have pre29 : ∀ tgt, Steps p.tables e below (T24.setTop (mkF m 89 #[.val (.int x0), .val (.int x1), .val (.int (0 : Int32)), .val (.int (x1 &&& (3 : Int32))), .val (.ref b1), .val (.ref b7), .val (.ref b14), .val (.ref b22), .unset, .unset] [])) tgt → Steps p.tables e below (s₁.setTop (entryFrame m #[(.int x0), (.int x1)] maxLocals)) tgt := by
      intro tgt kgo
      refine pre28 _ ?_
      refine XS.iloadN X24.here hx rfl (hb hby at_50) rfl ?_
      show Steps p.tables e below (T24.setTop (mkF m 51 #[.val (.int x0), .val (.int x1), .val (.int (0 : Int32)), .val (.int (x1 &&& (3 : Int32))), .val (.ref b1), .val (.ref b7), .val (.ref b14), .val (.ref b22), .unset, .unset] [(.int (0 : Int32))])) _
      refine XS.iconst X24.here hx rfl (hb hby at_51) ?_
      show Steps p.tables e below (T24.setTop (mkF m 52 #[.val (.int x0), .val (.int x1), .val (.int (0 : Int32)), .val (.int (x1 &&& (3 : Int32))), .val (.ref b1), .val (.ref b7), .val (.ref b14), .val (.ref b22), .unset, .unset] [(.int (1 : Int32)), (.int (0 : Int32))])) _
      refine XS.icmpYes X24.here hx rfl (pc0 := 52) (pc' := 63) rfl (hb hby at_52) rfl (tlt (by decide : (0 : Int32) < (1 : Int32))).1 (by decide) (by decide) ?_
      show Steps p.tables e below (T24.setTop (mkF m 63 #[.val (.int x0), .val (.int x1), .val (.int (0 : Int32)), .val (.int (x1 &&& (3 : Int32))), .val (.ref b1), .val (.ref b7), .val (.ref b14), .val (.ref b22), .unset, .unset] [])) _
      refine XS.iloadN X24.here hx rfl (hb hby at_63) rfl ?_
      show Steps p.tables e below (T24.setTop (mkF m 64 #[.val (.int x0), .val (.int x1), .val (.int (0 : Int32)), .val (.int (x1 &&& (3 : Int32))), .val (.ref b1), .val (.ref b7), .val (.ref b14), .val (.ref b22), .unset, .unset] [(.int (0 : Int32))])) _
      refine XS.iconst X24.here hx rfl (hb hby at_64) ?_
      show Steps p.tables e below (T24.setTop (mkF m 65 #[.val (.int x0), .val (.int x1), .val (.int (0 : Int32)), .val (.int (x1 &&& (3 : Int32))), .val (.ref b1), .val (.ref b7), .val (.ref b14), .val (.ref b22), .unset, .unset] [(.int (2 : Int32)), (.int (0 : Int32))])) _
      refine XS.icmpYes X24.here hx rfl (pc0 := 65) (pc' := 76) rfl (hb hby at_65) rfl (tlt (by decide : (0 : Int32) < (2 : Int32))).1 (by decide) (by decide) ?_
      show Steps p.tables e below (T24.setTop (mkF m 76 #[.val (.int x0), .val (.int x1), .val (.int (0 : Int32)), .val (.int (x1 &&& (3 : Int32))), .val (.ref b1), .val (.ref b7), .val (.ref b14), .val (.ref b22), .unset, .unset] [])) _
      refine XS.iloadN X24.here hx rfl (hb hby at_76) rfl ?_
      show Steps p.tables e below (T24.setTop (mkF m 77 #[.val (.int x0), .val (.int x1), .val (.int (0 : Int32)), .val (.int (x1 &&& (3 : Int32))), .val (.ref b1), .val (.ref b7), .val (.ref b14), .val (.ref b22), .unset, .unset] [(.int (0 : Int32))])) _
      refine XS.iconst X24.here hx rfl (hb hby at_77) ?_
      show Steps p.tables e below (T24.setTop (mkF m 78 #[.val (.int x0), .val (.int x1), .val (.int (0 : Int32)), .val (.int (x1 &&& (3 : Int32))), .val (.ref b1), .val (.ref b7), .val (.ref b14), .val (.ref b22), .unset, .unset] [(.int (3 : Int32)), (.int (0 : Int32))])) _
      refine XS.icmpYes X24.here hx rfl (pc0 := 78) (pc' := 89) rfl (hb hby at_78) rfl (tlt (by decide : (0 : Int32) < (3 : Int32))).1 (by decide) (by decide) ?_
      show Steps p.tables e below (T24.setTop (mkF m 89 #[.val (.int x0), .val (.int x1), .val (.int (0 : Int32)), .val (.int (x1 &&& (3 : Int32))), .val (.ref b1), .val (.ref b7), .val (.ref b14), .val (.ref b22), .unset, .unset] [])) _
      exact kgo
    rcases own_and3 x1 with hqx1 | hqx1 | hqx1 | hqx1
    · have pre30 : ∀ tgt, Steps p.tables e below (T24.setTop (mkF m 89 #[.val (.int x0), .val (.int x1), .val (.int (0 : Int32)), .val (.int (0 : Int32)), .val (.ref b1), .val (.ref b7), .val (.ref b14), .val (.ref b22), .unset, .unset] [])) tgt → Steps p.tables e below (s₁.setTop (entryFrame m #[(.int x0), (.int x1)] maxLocals)) tgt := by
        have q := pre29
        rw [hqx1] at q
        exact q
      have f31 := ((f19.ext E22).keep kp24)
      have f32 := ((f20.ext E22).keep kp24)
      have f33 := ((f21.ext E22).keep kp24)
      have f34 := (A22.keep kp24)
      obtain ⟨T35, h35, X35, e35, E35, A35, D35, U35, st35⟩ := newO X24 hx hZ hown (ow88 hw) (ow89 hw) (ow90 hw) rfl (g := (mkF m 128 #[.val (.int x0), .val (.int x1), .val (.int (0 : Int32)), .val (.int (0 : Int32)), .val (.ref b1), .val (.ref b7), .val (.ref b14), .val (.ref b22), .unset, .unset] [])) rfl (hb hby at_128) (by decide) (by decide)
      obtain ⟨b35, g35⟩ : ∃ z, z = T24.heap.size := ⟨_, rfl⟩
      rw [← g35] at A35 D35 U35 st35
      have gn35 : n0 ≤ b35 := Nat.le_trans (own_sz Ol26) (Nat.le_of_eq g35.symm)
      have neb1_35 : b1 ≠ b35 := Nat.ne_of_lt (Nat.lt_of_lt_of_le f31.lt (Nat.le_of_eq g35.symm))
      have neb7_35 : b7 ≠ b35 := Nat.ne_of_lt (Nat.lt_of_lt_of_le f32.lt (Nat.le_of_eq g35.symm))
      have neb14_35 : b14 ≠ b35 := Nat.ne_of_lt (Nat.lt_of_lt_of_le f33.lt (Nat.le_of_eq g35.symm))
      have neb22_35 : b22 ≠ b35 := Nat.ne_of_lt (Nat.lt_of_lt_of_le f34.lt (Nat.le_of_eq g35.symm))
      have Ol36 := Ol26.ext E35
      have FserviceExceeded_35 : Fld Z h35 b35 "com/example/atropos/atropos/analysis/Admission" "serviceExceeded" "Ljava/util/List;" .null := D35 (Or.inr (ow188 hw)) (ty := (.object "java/util/List")) (by decide)
      have FrateExceeded_35 : Fld Z h35 b35 "com/example/atropos/atropos/analysis/Admission" "rateExceeded" "Ljava/util/List;" .null := D35 (Or.inr (ow190 hw)) (ty := (.object "java/util/List")) (by decide)
      have f37 := (f33.ext E35)
      have f38 := (((gs16.ext E22).keep kp24 (ninS neb14_22 nin0)).ext E35)
      have f39 := (f34.ext E35)
      have f40 := (gs24.ext E35)
      obtain ⟨_, _, ⟨T41, L41, k41, n41⟩, -, X41, ⟨Lc41, hQ41, l41, y41, z41⟩, st41⟩ := X35.specialBack hx (y := (⟨"com/example/atropos/atropos/analysis/Admission", "<init>", "(Ljava/util/List;Ljava/util/List;)V"⟩ : MethodName)) rfl hown (mvT hZ (ow91 hw)) (mvT hZ (ow92 hw)) (mvT hZ (ow93 hw)) (by decide) (backOf (W := 1) (rmadm l Z a0 hw [] b35 b14 b22 (1 : Int32) (1 : Int32) el tel kel em mr h35 n0 Ol36 A35 FserviceExceeded_35 FrateExceeded_35 gn35 (Or.inl ⟨rfl, f37, f38⟩) (Or.inl ⟨rfl, f39, f40⟩) Sel Sem hM Eel Fel Ael) hZ (ow93 hw) (ow90 hw) (by decide) (by decide)) (g := (mkF m 136 #[.val (.int x0), .val (.int x1), .val (.int (0 : Int32)), .val (.int (0 : Int32)), .val (.ref b1), .val (.ref b7), .val (.ref b14), .val (.ref b22), .unset, .unset] [(.ref b22), (.ref b14), (.ref b35), (.ref b35)])) rfl (by rw [hml]; rfl) (Steps.refl _) (a := b35) (argsL := [(.ref b14), (.ref b22)]) (rest := [(.ref b35)]) (lenOf pd17 rfl) rfl (by show 2 * 0 + _ ≤ _; exact Nat.le_of_eq rfl) (hb hby at_136) (fun _ _ => ⟨rfl, e35, (by decide : 5 + 6 ≤ _), (by decide : 14 + 16 ≤ _)⟩)
      dsimp only [Pt.U, Pt.locs, Pt.cells, Pt.slots] at X41 l41 y41 z41 st41 hQ41
      subst l41 y41 z41
      obtain ⟨r141, r241, rfl, Nq41, kp41, f141, f241, e141, e241⟩ := hQ41
      have N42 := Fr.app N25 Nq41
      have Ol43 := Ol36.keep kp41 (allS gn35 all0)
      have f45 := (A35.keep kp41)
      obtain ⟨cq44, kq44, q44a, q44b, q44c⟩ := isOf hZ rfl f45
      obtain ⟨_, _, ⟨T44, L44, k44, n44⟩, -, X44, ⟨Lc44, hQ44, l44, y44, z44⟩, st44⟩ := X41.virtualBack hx (y := (⟨"com/example/atropos/atropos/analysis/Admission", "admits", "()Z"⟩ : MethodName)) (z := (⟨"com/example/atropos/atropos/analysis/Admission", "admits", "()Z"⟩ : MethodName)) hown (mvT hZ (ow191 hw)) (mvT hZ (ow192 hw)) (notFace_of_selects (args := #[]) (mvT hZ (ow194 hw))) (mvT hZ (ow194 hw)) (mvT hZ (ow193 hw)) (by decide) (backOf (W := 0) (rmadt l Z a0 hw [] b35 r141 r241 (1 : Int32) (1 : Int32) T41.heap n0 Ol43 f141 f241 e141 e241) hZ (ow195 hw) (ow90 hw) (by decide) (by decide)) q44a q44c (g := (mkF m 164 #[.val (.int x0), .val (.int x1), .val (.int (0 : Int32)), .val (.int (0 : Int32)), .val (.ref b1), .val (.ref b7), .val (.ref b14), .val (.ref b22), .val (.ref b35), .val (.int (1 : Int32))] [(.ref b35)])) rfl (by rw [hml]; rfl) (Steps.refl _) (argsL := []) (rest := []) (lenOf pd12 rfl) rfl (by show 2 * 0 + _ ≤ _; exact Nat.le_of_eq rfl) (hb hby at_164) (fun _ _ => ⟨rfl, rfl, (by decide : 11 + 0 ≤ _), (by decide : 30 + 0 ≤ _)⟩)
      dsimp only [Pt.U, Pt.locs, Pt.cells, Pt.slots] at X44 l44 y44 z44 st44 hQ44
      subst l44 y44 z44
      obtain ⟨rfl, Nq44, eq44⟩ := hQ44
      have N46 := Fr.app N42 Nq44
      obtain ⟨fs, hretL, hrun, hended, hW, hsame⟩ := X44.leave (v := some (.int (1 : Int32))) (fun h => by rw [Bd.returns] at h; cases h)
      refine ⟨_, _, pre30 _ ?_, hrun, hended, _, _, rfl, ?_, ⟨_, rfl⟩, hW, hsame.mono (by decide) (by decide)⟩
      · refine XS.iloadN X24.here hx rfl (hb hby at_89) rfl ?_
        show Steps p.tables e below (T24.setTop (mkF m 90 #[.val (.int x0), .val (.int x1), .val (.int (0 : Int32)), .val (.int (0 : Int32)), .val (.ref b1), .val (.ref b7), .val (.ref b14), .val (.ref b22), .unset, .unset] [(.int (0 : Int32))])) _
        refine XS.iconst X24.here hx rfl (hb hby at_90) ?_
        show Steps p.tables e below (T24.setTop (mkF m 91 #[.val (.int x0), .val (.int x1), .val (.int (0 : Int32)), .val (.int (0 : Int32)), .val (.ref b1), .val (.ref b7), .val (.ref b14), .val (.ref b22), .unset, .unset] [(.int (1 : Int32)), (.int (0 : Int32))])) _
        refine XS.icmpYes X24.here hx rfl (pc0 := 91) (pc' := 102) rfl (hb hby at_91) rfl (tlt (by decide : (0 : Int32) < (1 : Int32))).1 (by decide) (by decide) ?_
        show Steps p.tables e below (T24.setTop (mkF m 102 #[.val (.int x0), .val (.int x1), .val (.int (0 : Int32)), .val (.int (0 : Int32)), .val (.ref b1), .val (.ref b7), .val (.ref b14), .val (.ref b22), .unset, .unset] [])) _
        refine XS.iloadN X24.here hx rfl (hb hby at_102) rfl ?_
        show Steps p.tables e below (T24.setTop (mkF m 103 #[.val (.int x0), .val (.int x1), .val (.int (0 : Int32)), .val (.int (0 : Int32)), .val (.ref b1), .val (.ref b7), .val (.ref b14), .val (.ref b22), .unset, .unset] [(.int (0 : Int32))])) _
        refine XS.iconst X24.here hx rfl (hb hby at_103) ?_
        show Steps p.tables e below (T24.setTop (mkF m 104 #[.val (.int x0), .val (.int x1), .val (.int (0 : Int32)), .val (.int (0 : Int32)), .val (.ref b1), .val (.ref b7), .val (.ref b14), .val (.ref b22), .unset, .unset] [(.int (2 : Int32)), (.int (0 : Int32))])) _
        refine XS.icmpYes X24.here hx rfl (pc0 := 104) (pc' := 115) rfl (hb hby at_104) rfl (tlt (by decide : (0 : Int32) < (2 : Int32))).1 (by decide) (by decide) ?_
        show Steps p.tables e below (T24.setTop (mkF m 115 #[.val (.int x0), .val (.int x1), .val (.int (0 : Int32)), .val (.int (0 : Int32)), .val (.ref b1), .val (.ref b7), .val (.ref b14), .val (.ref b22), .unset, .unset] [])) _
        refine XS.iloadN X24.here hx rfl (hb hby at_115) rfl ?_
        show Steps p.tables e below (T24.setTop (mkF m 116 #[.val (.int x0), .val (.int x1), .val (.int (0 : Int32)), .val (.int (0 : Int32)), .val (.ref b1), .val (.ref b7), .val (.ref b14), .val (.ref b22), .unset, .unset] [(.int (0 : Int32))])) _
        refine XS.iconst X24.here hx rfl (hb hby at_116) ?_
        show Steps p.tables e below (T24.setTop (mkF m 117 #[.val (.int x0), .val (.int x1), .val (.int (0 : Int32)), .val (.int (0 : Int32)), .val (.ref b1), .val (.ref b7), .val (.ref b14), .val (.ref b22), .unset, .unset] [(.int (3 : Int32)), (.int (0 : Int32))])) _
        refine XS.icmpYes X24.here hx rfl (pc0 := 117) (pc' := 128) rfl (hb hby at_117) rfl (tlt (by decide : (0 : Int32) < (3 : Int32))).1 (by decide) (by decide) ?_
        show Steps p.tables e below (T24.setTop (mkF m 128 #[.val (.int x0), .val (.int x1), .val (.int (0 : Int32)), .val (.int (0 : Int32)), .val (.ref b1), .val (.ref b7), .val (.ref b14), .val (.ref b22), .unset, .unset] [])) _
        refine st35 _ ?_
        show Steps p.tables e below (T35.setTop (mkF m 131 #[.val (.int x0), .val (.int x1), .val (.int (0 : Int32)), .val (.int (0 : Int32)), .val (.ref b1), .val (.ref b7), .val (.ref b14), .val (.ref b22), .unset, .unset] [(.ref b35)])) _
        refine XS.dup X35.here hx rfl (hb hby at_131) rfl rfl ?_
        show Steps p.tables e below (T35.setTop (mkF m 132 #[.val (.int x0), .val (.int x1), .val (.int (0 : Int32)), .val (.int (0 : Int32)), .val (.ref b1), .val (.ref b7), .val (.ref b14), .val (.ref b22), .unset, .unset] [(.ref b35), (.ref b35)])) _
        refine XS.aload X35.here hx rfl (hb hby at_132) rfl rfl ?_
        show Steps p.tables e below (T35.setTop (mkF m 134 #[.val (.int x0), .val (.int x1), .val (.int (0 : Int32)), .val (.int (0 : Int32)), .val (.ref b1), .val (.ref b7), .val (.ref b14), .val (.ref b22), .unset, .unset] [(.ref b14), (.ref b35), (.ref b35)])) _
        refine XS.aload X35.here hx rfl (hb hby at_134) rfl rfl ?_
        show Steps p.tables e below (T35.setTop (mkF m 136 #[.val (.int x0), .val (.int x1), .val (.int (0 : Int32)), .val (.int (0 : Int32)), .val (.ref b1), .val (.ref b7), .val (.ref b14), .val (.ref b22), .unset, .unset] [(.ref b22), (.ref b14), (.ref b35), (.ref b35)])) _
        refine st41.trans ?_
        show Steps p.tables e below (T41.setTop (mkF m 139 #[.val (.int x0), .val (.int x1), .val (.int (0 : Int32)), .val (.int (0 : Int32)), .val (.ref b1), .val (.ref b7), .val (.ref b14), .val (.ref b22), .unset, .unset] [(.ref b35)])) _
        refine XS.astore X41.here hx rfl (hb hby at_139) rfl rfl (l' := #[.val (.int x0), .val (.int x1), .val (.int (0 : Int32)), .val (.int (0 : Int32)), .val (.ref b1), .val (.ref b7), .val (.ref b14), .val (.ref b22), .val (.ref b35), .unset]) rfl ?_
        show Steps p.tables e below (T41.setTop (mkF m 141 #[.val (.int x0), .val (.int x1), .val (.int (0 : Int32)), .val (.int (0 : Int32)), .val (.ref b1), .val (.ref b7), .val (.ref b14), .val (.ref b22), .val (.ref b35), .unset] [])) _
        refine XS.iloadN X41.here hx rfl (hb hby at_141) rfl ?_
        show Steps p.tables e below (T41.setTop (mkF m 142 #[.val (.int x0), .val (.int x1), .val (.int (0 : Int32)), .val (.int (0 : Int32)), .val (.ref b1), .val (.ref b7), .val (.ref b14), .val (.ref b22), .val (.ref b35), .unset] [(.int (0 : Int32))])) _
        refine XS.ifNo X41.here hx rfl (hb hby at_142) rfl ((if0 _ _).trans (teq (by decide : (0 : Int32) = (0 : Int32))).2) ?_
        show Steps p.tables e below (T41.setTop (mkF m 145 #[.val (.int x0), .val (.int x1), .val (.int (0 : Int32)), .val (.int (0 : Int32)), .val (.ref b1), .val (.ref b7), .val (.ref b14), .val (.ref b22), .val (.ref b35), .unset] [])) _
        refine XS.iloadN X41.here hx rfl (hb hby at_145) rfl ?_
        show Steps p.tables e below (T41.setTop (mkF m 146 #[.val (.int x0), .val (.int x1), .val (.int (0 : Int32)), .val (.int (0 : Int32)), .val (.ref b1), .val (.ref b7), .val (.ref b14), .val (.ref b22), .val (.ref b35), .unset] [(.int (0 : Int32))])) _
        refine XS.ifNo X41.here hx rfl (hb hby at_146) rfl ((if0 _ _).trans (teq (by decide : (0 : Int32) = (0 : Int32))).2) ?_
        show Steps p.tables e below (T41.setTop (mkF m 149 #[.val (.int x0), .val (.int x1), .val (.int (0 : Int32)), .val (.int (0 : Int32)), .val (.ref b1), .val (.ref b7), .val (.ref b14), .val (.ref b22), .val (.ref b35), .unset] [])) _
        refine XS.iconst X41.here hx rfl (hb hby at_149) ?_
        show Steps p.tables e below (T41.setTop (mkF m 150 #[.val (.int x0), .val (.int x1), .val (.int (0 : Int32)), .val (.int (0 : Int32)), .val (.ref b1), .val (.ref b7), .val (.ref b14), .val (.ref b22), .val (.ref b35), .unset] [(.int (1 : Int32))])) _
        refine XS.goto X41.here hx rfl (pc0 := 150) (pc' := 154) rfl (hb hby at_150) (by decide) (by decide) ?_
        show Steps p.tables e below (T41.setTop (mkF m 154 #[.val (.int x0), .val (.int x1), .val (.int (0 : Int32)), .val (.int (0 : Int32)), .val (.ref b1), .val (.ref b7), .val (.ref b14), .val (.ref b22), .val (.ref b35), .unset] [(.int (1 : Int32))])) _
        refine XS.istore X41.here hx rfl (hb hby at_154) rfl (l' := #[.val (.int x0), .val (.int x1), .val (.int (0 : Int32)), .val (.int (0 : Int32)), .val (.ref b1), .val (.ref b7), .val (.ref b14), .val (.ref b22), .val (.ref b35), .val (.int (1 : Int32))]) rfl ?_
        show Steps p.tables e below (T41.setTop (mkF m 156 #[.val (.int x0), .val (.int x1), .val (.int (0 : Int32)), .val (.int (0 : Int32)), .val (.ref b1), .val (.ref b7), .val (.ref b14), .val (.ref b22), .val (.ref b35), .val (.int (1 : Int32))] [])) _
        refine XS.goto X41.here hx rfl (pc0 := 156) (pc' := 162) rfl (hb hby at_156) (by decide) (by decide) ?_
        show Steps p.tables e below (T41.setTop (mkF m 162 #[.val (.int x0), .val (.int x1), .val (.int (0 : Int32)), .val (.int (0 : Int32)), .val (.ref b1), .val (.ref b7), .val (.ref b14), .val (.ref b22), .val (.ref b35), .val (.int (1 : Int32))] [])) _
        refine XS.aload X41.here hx rfl (hb hby at_162) rfl rfl ?_
        show Steps p.tables e below (T41.setTop (mkF m 164 #[.val (.int x0), .val (.int x1), .val (.int (0 : Int32)), .val (.int (0 : Int32)), .val (.ref b1), .val (.ref b7), .val (.ref b14), .val (.ref b22), .val (.ref b35), .val (.int (1 : Int32))] [(.ref b35)])) _
        refine st44.trans ?_
        show Steps p.tables e below (T44.setTop (mkF m 167 #[.val (.int x0), .val (.int x1), .val (.int (0 : Int32)), .val (.int (0 : Int32)), .val (.ref b1), .val (.ref b7), .val (.ref b14), .val (.ref b22), .val (.ref b35), .val (.int (1 : Int32))] [(.int (adm (1 : Int32) (1 : Int32)))])) _
        refine XS.iload X44.here hx rfl (hb hby at_167) rfl ?_
        show Steps p.tables e below (T44.setTop (mkF m 169 #[.val (.int x0), .val (.int x1), .val (.int (0 : Int32)), .val (.int (0 : Int32)), .val (.ref b1), .val (.ref b7), .val (.ref b14), .val (.ref b22), .val (.ref b35), .val (.int (1 : Int32))] [(.int (1 : Int32)), (.int (adm (1 : Int32) (1 : Int32)))])) _
        refine XS.icmpNo X44.here hx rfl (hb hby at_169) rfl (teq (by decide)).2 ?_
        show Steps p.tables e below (T44.setTop (mkF m 172 #[.val (.int x0), .val (.int x1), .val (.int (0 : Int32)), .val (.int (0 : Int32)), .val (.ref b1), .val (.ref b7), .val (.ref b14), .val (.ref b22), .val (.ref b35), .val (.int (1 : Int32))] [])) _
        refine XS.iconst X44.here hx rfl (hb hby at_172) ?_
        show Steps p.tables e below (T44.setTop (mkF m 173 #[.val (.int x0), .val (.int x1), .val (.int (0 : Int32)), .val (.int (0 : Int32)), .val (.ref b1), .val (.ref b7), .val (.ref b14), .val (.ref b22), .val (.ref b35), .val (.int (1 : Int32))] [(.int (1 : Int32))])) _
        refine XS.goto X44.here hx rfl (pc0 := 173) (pc' := 177) rfl (hb hby at_173) (by decide) (by decide) ?_
        show Steps p.tables e below (T44.setTop (mkF m 177 #[.val (.int x0), .val (.int x1), .val (.int (0 : Int32)), .val (.int (0 : Int32)), .val (.ref b1), .val (.ref b7), .val (.ref b14), .val (.ref b22), .val (.ref b35), .val (.int (1 : Int32))] [(.int (1 : Int32))])) _
        exact retOut X44 hx Bd.returns rfl (Or.inl ⟨rfl, Or.inr (Or.inl rfl), _, rfl⟩) (hb hby at_177) hretL
      · show Q_rm0 Z x0 x1 de kde el tel kel em mr h0 n0 _ T44.heap _
        rw [eq44]
        exact ⟨rfl, N46⟩
    · have pre47 : ∀ tgt, Steps p.tables e below (T24.setTop (mkF m 89 #[.val (.int x0), .val (.int x1), .val (.int (0 : Int32)), .val (.int (1 : Int32)), .val (.ref b1), .val (.ref b7), .val (.ref b14), .val (.ref b22), .unset, .unset] [])) tgt → Steps p.tables e below (s₁.setTop (entryFrame m #[(.int x0), (.int x1)] maxLocals)) tgt := by
        have q := pre29
        rw [hqx1] at q
        exact q
      have f48 := (A22.keep kp24)
      have f49 := ((f20.ext E22).keep kp24)
      have f50 := ((f19.ext E22).keep kp24)
      have f51 := ((f21.ext E22).keep kp24)
      obtain ⟨cq52, kq52, q52a, q52b, q52c⟩ := isOf hZ rfl f48
      obtain ⟨_, _, ⟨T52, L52, k52, n52⟩, -, X52, ⟨Lc52, hQ52, l52, y52, z52⟩, st52⟩ := X24.virtualBack hx (y := (⟨"java/util/ArrayList", "add", "(Ljava/lang/Object;)Z"⟩ : MethodName)) (z := (⟨"java/util/ArrayList", "add", "(Ljava/lang/Object;)Z"⟩ : MethodName)) hown (mvT hZ (ow57 hw)) (mvT hZ (ow58 hw)) (notFace_of_selects (args := #[]) (mvT hZ (ow60 hw))) (mvT hZ (ow60 hw)) (mvT hZ (ow59 hw)) (by decide) (backOf (W := 0) (rmad0 l Z a0 hw [] b22 b7 de kde (0 : Int32) "com/example/atropos/atropos/ops/Excess$Rate" T24.heap n0 Ol26 Sde Ade f48 gm24 gs24 ge24 gn22 f49 (ow87 hw)) hZ (ow61 hw) (ow35 hw) (by decide) (by decide)) q52a q52c (g := (mkF m 98 #[.val (.int x0), .val (.int x1), .val (.int (0 : Int32)), .val (.int (1 : Int32)), .val (.ref b1), .val (.ref b7), .val (.ref b14), .val (.ref b22), .unset, .unset] [(.ref b7), (.ref b22)])) rfl (by rw [hml]; rfl) (Steps.refl _) (argsL := [(.ref b7)]) (rest := []) (lenOf pd18 rfl) rfl (by show 2 * 0 + _ ≤ _; exact Nat.le_of_eq rfl) (hb hby at_98) (fun _ _ => ⟨rfl, rfl, (by decide : 4 + 1 ≤ _), (by decide : 12 + 10 ≤ _)⟩)
      dsimp only [Pt.U, Pt.locs, Pt.cells, Pt.slots] at X52 l52 y52 z52 st52 hQ52
      subst l52 y52 z52
      obtain ⟨gb52, gk52, rfl, Nq52, kp52, gg52, gz52, go52, gE52, gm52, gs52, ge52, ga52⟩ := hQ52
      have N53 := Fr.app N25 Nq52
      have Ol54 := Ol26.keep kp52 (allS gn22 all0)
      have gne52_b1 : b1 ≠ gb52 := Nat.ne_of_lt (Nat.lt_of_lt_of_le f50.lt gz52)
      have gne52_b7 : b7 ≠ gb52 := Nat.ne_of_lt (Nat.lt_of_lt_of_le f49.lt gz52)
      have gne52_b14 : b14 ≠ gb52 := Nat.ne_of_lt (Nat.lt_of_lt_of_le f51.lt gz52)
      have gne52_b22 : b22 ≠ gb52 := Nat.ne_of_lt (Nat.lt_of_lt_of_le f48.lt gz52)
      have f55 := (f50.keep kp52)
      have f56 := (f49.keep kp52)
      have f57 := (f51.keep kp52)
      have f58 := (f48.keep kp52)
      obtain ⟨T59, h59, X59, e59, E59, A59, D59, U59, st59⟩ := newO X52 hx hZ hown (ow88 hw) (ow89 hw) (ow90 hw) rfl (g := (mkF m 128 #[.val (.int x0), .val (.int x1), .val (.int (0 : Int32)), .val (.int (1 : Int32)), .val (.ref b1), .val (.ref b7), .val (.ref b14), .val (.ref b22), .unset, .unset] [])) rfl (hb hby at_128) (by decide) (by decide)
      obtain ⟨b59, g59⟩ : ∃ z, z = T52.heap.size := ⟨_, rfl⟩
      rw [← g59] at A59 D59 U59 st59
      have gn59 : n0 ≤ b59 := Nat.le_trans (own_sz Ol54) (Nat.le_of_eq g59.symm)
      have neb1_59 : b1 ≠ b59 := Nat.ne_of_lt (Nat.lt_of_lt_of_le f55.lt (Nat.le_of_eq g59.symm))
      have neb7_59 : b7 ≠ b59 := Nat.ne_of_lt (Nat.lt_of_lt_of_le f56.lt (Nat.le_of_eq g59.symm))
      have neb14_59 : b14 ≠ b59 := Nat.ne_of_lt (Nat.lt_of_lt_of_le f57.lt (Nat.le_of_eq g59.symm))
      have neb22_59 : b22 ≠ b59 := Nat.ne_of_lt (Nat.lt_of_lt_of_le f58.lt (Nat.le_of_eq g59.symm))
      have negb52_59 : gb52 ≠ b59 := Nat.ne_of_lt (Nat.lt_of_lt_of_le gE52.lt (Nat.le_of_eq g59.symm))
      have Ol60 := Ol54.ext E59
      have FserviceExceeded_59 : Fld Z h59 b59 "com/example/atropos/atropos/analysis/Admission" "serviceExceeded" "Ljava/util/List;" .null := D59 (Or.inr (ow188 hw)) (ty := (.object "java/util/List")) (by decide)
      have FrateExceeded_59 : Fld Z h59 b59 "com/example/atropos/atropos/analysis/Admission" "rateExceeded" "Ljava/util/List;" .null := D59 (Or.inr (ow190 hw)) (ty := (.object "java/util/List")) (by decide)
      have f61 := (f57.ext E59)
      have f62 := ((((gs16.ext E22).keep kp24 (ninS neb14_22 nin0)).keep kp52 (ninS neb14_22 nin0)).ext E59)
      have f63 := (f58.ext E59)
      have f64 := (gs52.ext E59)
      have f65 := (ge52.ext E59)
      have f66 := (ga52.ext E59)
      have f67 := (gE52.ext E59)
      have f68 := (f56.ext E59)
      obtain ⟨_, _, ⟨T69, L69, k69, n69⟩, -, X69, ⟨Lc69, hQ69, l69, y69, z69⟩, st69⟩ := X59.specialBack hx (y := (⟨"com/example/atropos/atropos/analysis/Admission", "<init>", "(Ljava/util/List;Ljava/util/List;)V"⟩ : MethodName)) rfl hown (mvT hZ (ow91 hw)) (mvT hZ (ow92 hw)) (mvT hZ (ow93 hw)) (by decide) (backOf (W := 1) (rmadm l Z a0 hw [] b59 b14 b22 (1 : Int32) (0 : Int32) el tel kel em mr h59 n0 Ol60 A59 FserviceExceeded_59 FrateExceeded_59 gn59 (Or.inl ⟨rfl, f61, f62⟩) (Or.inr (Or.inl ⟨b7, _, gb52, _, rfl, f63, f64, f65, f66, f67, f68, (ow87 hw)⟩)) Sel Sem hM Eel Fel Ael) hZ (ow93 hw) (ow90 hw) (by decide) (by decide)) (g := (mkF m 136 #[.val (.int x0), .val (.int x1), .val (.int (0 : Int32)), .val (.int (1 : Int32)), .val (.ref b1), .val (.ref b7), .val (.ref b14), .val (.ref b22), .unset, .unset] [(.ref b22), (.ref b14), (.ref b59), (.ref b59)])) rfl (by rw [hml]; rfl) (Steps.refl _) (a := b59) (argsL := [(.ref b14), (.ref b22)]) (rest := [(.ref b59)]) (lenOf pd17 rfl) rfl (by show 2 * 0 + _ ≤ _; exact Nat.le_of_eq rfl) (hb hby at_136) (fun _ _ => ⟨rfl, e59, (by decide : 6 + 6 ≤ _), (by decide : 24 + 16 ≤ _)⟩)
      dsimp only [Pt.U, Pt.locs, Pt.cells, Pt.slots] at X69 l69 y69 z69 st69 hQ69
      subst l69 y69 z69
      obtain ⟨r169, r269, rfl, Nq69, kp69, f169, f269, e169, e269⟩ := hQ69
      have N70 := Fr.app N53 Nq69
      have Ol71 := Ol60.keep kp69 (allS gn59 all0)
      have f73 := (A59.keep kp69)
      obtain ⟨cq72, kq72, q72a, q72b, q72c⟩ := isOf hZ rfl f73
      obtain ⟨_, _, ⟨T72, L72, k72, n72⟩, -, X72, ⟨Lc72, hQ72, l72, y72, z72⟩, st72⟩ := X69.virtualBack hx (y := (⟨"com/example/atropos/atropos/analysis/Admission", "admits", "()Z"⟩ : MethodName)) (z := (⟨"com/example/atropos/atropos/analysis/Admission", "admits", "()Z"⟩ : MethodName)) hown (mvT hZ (ow191 hw)) (mvT hZ (ow192 hw)) (notFace_of_selects (args := #[]) (mvT hZ (ow194 hw))) (mvT hZ (ow194 hw)) (mvT hZ (ow193 hw)) (by decide) (backOf (W := 0) (rmadt l Z a0 hw [] b59 r169 r269 (1 : Int32) (0 : Int32) T69.heap n0 Ol71 f169 f269 e169 e269) hZ (ow195 hw) (ow90 hw) (by decide) (by decide)) q72a q72c (g := (mkF m 164 #[.val (.int x0), .val (.int x1), .val (.int (0 : Int32)), .val (.int (1 : Int32)), .val (.ref b1), .val (.ref b7), .val (.ref b14), .val (.ref b22), .val (.ref b59), .val (.int (0 : Int32))] [(.ref b59)])) rfl (by rw [hml]; rfl) (Steps.refl _) (argsL := []) (rest := []) (lenOf pd12 rfl) rfl (by show 2 * 0 + _ ≤ _; exact Nat.le_of_eq rfl) (hb hby at_164) (fun _ _ => ⟨rfl, rfl, (by decide : 12 + 0 ≤ _), (by decide : 40 + 0 ≤ _)⟩)
      dsimp only [Pt.U, Pt.locs, Pt.cells, Pt.slots] at X72 l72 y72 z72 st72 hQ72
      subst l72 y72 z72
      obtain ⟨rfl, Nq72, eq72⟩ := hQ72
      have N74 := Fr.app N70 Nq72
      obtain ⟨fs, hretL, hrun, hended, hW, hsame⟩ := X72.leave (v := some (.int (1 : Int32))) (fun h => by rw [Bd.returns] at h; cases h)
      refine ⟨_, _, pre47 _ ?_, hrun, hended, _, _, rfl, ?_, ⟨_, rfl⟩, hW, hsame.mono (by decide) (by decide)⟩
      · refine XS.iloadN X24.here hx rfl (hb hby at_89) rfl ?_
        show Steps p.tables e below (T24.setTop (mkF m 90 #[.val (.int x0), .val (.int x1), .val (.int (0 : Int32)), .val (.int (1 : Int32)), .val (.ref b1), .val (.ref b7), .val (.ref b14), .val (.ref b22), .unset, .unset] [(.int (1 : Int32))])) _
        refine XS.iconst X24.here hx rfl (hb hby at_90) ?_
        show Steps p.tables e below (T24.setTop (mkF m 91 #[.val (.int x0), .val (.int x1), .val (.int (0 : Int32)), .val (.int (1 : Int32)), .val (.ref b1), .val (.ref b7), .val (.ref b14), .val (.ref b22), .unset, .unset] [(.int (1 : Int32)), (.int (1 : Int32))])) _
        refine XS.icmpNo X24.here hx rfl (hb hby at_91) rfl (flt (by decide : ¬ ((1 : Int32) < (1 : Int32)))).1 ?_
        show Steps p.tables e below (T24.setTop (mkF m 94 #[.val (.int x0), .val (.int x1), .val (.int (0 : Int32)), .val (.int (1 : Int32)), .val (.ref b1), .val (.ref b7), .val (.ref b14), .val (.ref b22), .unset, .unset] [])) _
        refine XS.aload X24.here hx rfl (hb hby at_94) rfl rfl ?_
        show Steps p.tables e below (T24.setTop (mkF m 96 #[.val (.int x0), .val (.int x1), .val (.int (0 : Int32)), .val (.int (1 : Int32)), .val (.ref b1), .val (.ref b7), .val (.ref b14), .val (.ref b22), .unset, .unset] [(.ref b22)])) _
        refine XS.aload X24.here hx rfl (hb hby at_96) rfl rfl ?_
        show Steps p.tables e below (T24.setTop (mkF m 98 #[.val (.int x0), .val (.int x1), .val (.int (0 : Int32)), .val (.int (1 : Int32)), .val (.ref b1), .val (.ref b7), .val (.ref b14), .val (.ref b22), .unset, .unset] [(.ref b7), (.ref b22)])) _
        refine st52.trans ?_
        show Steps p.tables e below (T52.setTop (mkF m 101 #[.val (.int x0), .val (.int x1), .val (.int (0 : Int32)), .val (.int (1 : Int32)), .val (.ref b1), .val (.ref b7), .val (.ref b14), .val (.ref b22), .unset, .unset] [(.int (1 : Int32))])) _
        refine XS.pop X52.here hx rfl (hb hby at_101) rfl rfl ?_
        show Steps p.tables e below (T52.setTop (mkF m 102 #[.val (.int x0), .val (.int x1), .val (.int (0 : Int32)), .val (.int (1 : Int32)), .val (.ref b1), .val (.ref b7), .val (.ref b14), .val (.ref b22), .unset, .unset] [])) _
        refine XS.iloadN X52.here hx rfl (hb hby at_102) rfl ?_
        show Steps p.tables e below (T52.setTop (mkF m 103 #[.val (.int x0), .val (.int x1), .val (.int (0 : Int32)), .val (.int (1 : Int32)), .val (.ref b1), .val (.ref b7), .val (.ref b14), .val (.ref b22), .unset, .unset] [(.int (1 : Int32))])) _
        refine XS.iconst X52.here hx rfl (hb hby at_103) ?_
        show Steps p.tables e below (T52.setTop (mkF m 104 #[.val (.int x0), .val (.int x1), .val (.int (0 : Int32)), .val (.int (1 : Int32)), .val (.ref b1), .val (.ref b7), .val (.ref b14), .val (.ref b22), .unset, .unset] [(.int (2 : Int32)), (.int (1 : Int32))])) _
        refine XS.icmpYes X52.here hx rfl (pc0 := 104) (pc' := 115) rfl (hb hby at_104) rfl (tlt (by decide : (1 : Int32) < (2 : Int32))).1 (by decide) (by decide) ?_
        show Steps p.tables e below (T52.setTop (mkF m 115 #[.val (.int x0), .val (.int x1), .val (.int (0 : Int32)), .val (.int (1 : Int32)), .val (.ref b1), .val (.ref b7), .val (.ref b14), .val (.ref b22), .unset, .unset] [])) _
        refine XS.iloadN X52.here hx rfl (hb hby at_115) rfl ?_
        show Steps p.tables e below (T52.setTop (mkF m 116 #[.val (.int x0), .val (.int x1), .val (.int (0 : Int32)), .val (.int (1 : Int32)), .val (.ref b1), .val (.ref b7), .val (.ref b14), .val (.ref b22), .unset, .unset] [(.int (1 : Int32))])) _
        refine XS.iconst X52.here hx rfl (hb hby at_116) ?_
        show Steps p.tables e below (T52.setTop (mkF m 117 #[.val (.int x0), .val (.int x1), .val (.int (0 : Int32)), .val (.int (1 : Int32)), .val (.ref b1), .val (.ref b7), .val (.ref b14), .val (.ref b22), .unset, .unset] [(.int (3 : Int32)), (.int (1 : Int32))])) _
        refine XS.icmpYes X52.here hx rfl (pc0 := 117) (pc' := 128) rfl (hb hby at_117) rfl (tlt (by decide : (1 : Int32) < (3 : Int32))).1 (by decide) (by decide) ?_
        show Steps p.tables e below (T52.setTop (mkF m 128 #[.val (.int x0), .val (.int x1), .val (.int (0 : Int32)), .val (.int (1 : Int32)), .val (.ref b1), .val (.ref b7), .val (.ref b14), .val (.ref b22), .unset, .unset] [])) _
        refine st59 _ ?_
        show Steps p.tables e below (T59.setTop (mkF m 131 #[.val (.int x0), .val (.int x1), .val (.int (0 : Int32)), .val (.int (1 : Int32)), .val (.ref b1), .val (.ref b7), .val (.ref b14), .val (.ref b22), .unset, .unset] [(.ref b59)])) _
        refine XS.dup X59.here hx rfl (hb hby at_131) rfl rfl ?_
        show Steps p.tables e below (T59.setTop (mkF m 132 #[.val (.int x0), .val (.int x1), .val (.int (0 : Int32)), .val (.int (1 : Int32)), .val (.ref b1), .val (.ref b7), .val (.ref b14), .val (.ref b22), .unset, .unset] [(.ref b59), (.ref b59)])) _
        refine XS.aload X59.here hx rfl (hb hby at_132) rfl rfl ?_
        show Steps p.tables e below (T59.setTop (mkF m 134 #[.val (.int x0), .val (.int x1), .val (.int (0 : Int32)), .val (.int (1 : Int32)), .val (.ref b1), .val (.ref b7), .val (.ref b14), .val (.ref b22), .unset, .unset] [(.ref b14), (.ref b59), (.ref b59)])) _
        refine XS.aload X59.here hx rfl (hb hby at_134) rfl rfl ?_
        show Steps p.tables e below (T59.setTop (mkF m 136 #[.val (.int x0), .val (.int x1), .val (.int (0 : Int32)), .val (.int (1 : Int32)), .val (.ref b1), .val (.ref b7), .val (.ref b14), .val (.ref b22), .unset, .unset] [(.ref b22), (.ref b14), (.ref b59), (.ref b59)])) _
        refine st69.trans ?_
        show Steps p.tables e below (T69.setTop (mkF m 139 #[.val (.int x0), .val (.int x1), .val (.int (0 : Int32)), .val (.int (1 : Int32)), .val (.ref b1), .val (.ref b7), .val (.ref b14), .val (.ref b22), .unset, .unset] [(.ref b59)])) _
        refine XS.astore X69.here hx rfl (hb hby at_139) rfl rfl (l' := #[.val (.int x0), .val (.int x1), .val (.int (0 : Int32)), .val (.int (1 : Int32)), .val (.ref b1), .val (.ref b7), .val (.ref b14), .val (.ref b22), .val (.ref b59), .unset]) rfl ?_
        show Steps p.tables e below (T69.setTop (mkF m 141 #[.val (.int x0), .val (.int x1), .val (.int (0 : Int32)), .val (.int (1 : Int32)), .val (.ref b1), .val (.ref b7), .val (.ref b14), .val (.ref b22), .val (.ref b59), .unset] [])) _
        refine XS.iloadN X69.here hx rfl (hb hby at_141) rfl ?_
        show Steps p.tables e below (T69.setTop (mkF m 142 #[.val (.int x0), .val (.int x1), .val (.int (0 : Int32)), .val (.int (1 : Int32)), .val (.ref b1), .val (.ref b7), .val (.ref b14), .val (.ref b22), .val (.ref b59), .unset] [(.int (0 : Int32))])) _
        refine XS.ifNo X69.here hx rfl (hb hby at_142) rfl ((if0 _ _).trans (teq (by decide : (0 : Int32) = (0 : Int32))).2) ?_
        show Steps p.tables e below (T69.setTop (mkF m 145 #[.val (.int x0), .val (.int x1), .val (.int (0 : Int32)), .val (.int (1 : Int32)), .val (.ref b1), .val (.ref b7), .val (.ref b14), .val (.ref b22), .val (.ref b59), .unset] [])) _
        refine XS.iloadN X69.here hx rfl (hb hby at_145) rfl ?_
        show Steps p.tables e below (T69.setTop (mkF m 146 #[.val (.int x0), .val (.int x1), .val (.int (0 : Int32)), .val (.int (1 : Int32)), .val (.ref b1), .val (.ref b7), .val (.ref b14), .val (.ref b22), .val (.ref b59), .unset] [(.int (1 : Int32))])) _
        refine XS.ifYes X69.here hx rfl (pc0 := 146) (pc' := 153) rfl (hb hby at_146) rfl ((if0 _ _).trans (feq (by decide : ¬ ((1 : Int32) = (0 : Int32)))).2) (by decide) (by decide) ?_
        show Steps p.tables e below (T69.setTop (mkF m 153 #[.val (.int x0), .val (.int x1), .val (.int (0 : Int32)), .val (.int (1 : Int32)), .val (.ref b1), .val (.ref b7), .val (.ref b14), .val (.ref b22), .val (.ref b59), .unset] [])) _
        refine XS.iconst X69.here hx rfl (hb hby at_153) ?_
        show Steps p.tables e below (T69.setTop (mkF m 154 #[.val (.int x0), .val (.int x1), .val (.int (0 : Int32)), .val (.int (1 : Int32)), .val (.ref b1), .val (.ref b7), .val (.ref b14), .val (.ref b22), .val (.ref b59), .unset] [(.int (0 : Int32))])) _
        refine XS.istore X69.here hx rfl (hb hby at_154) rfl (l' := #[.val (.int x0), .val (.int x1), .val (.int (0 : Int32)), .val (.int (1 : Int32)), .val (.ref b1), .val (.ref b7), .val (.ref b14), .val (.ref b22), .val (.ref b59), .val (.int (0 : Int32))]) rfl ?_
        show Steps p.tables e below (T69.setTop (mkF m 156 #[.val (.int x0), .val (.int x1), .val (.int (0 : Int32)), .val (.int (1 : Int32)), .val (.ref b1), .val (.ref b7), .val (.ref b14), .val (.ref b22), .val (.ref b59), .val (.int (0 : Int32))] [])) _
        refine XS.goto X69.here hx rfl (pc0 := 156) (pc' := 162) rfl (hb hby at_156) (by decide) (by decide) ?_
        show Steps p.tables e below (T69.setTop (mkF m 162 #[.val (.int x0), .val (.int x1), .val (.int (0 : Int32)), .val (.int (1 : Int32)), .val (.ref b1), .val (.ref b7), .val (.ref b14), .val (.ref b22), .val (.ref b59), .val (.int (0 : Int32))] [])) _
        refine XS.aload X69.here hx rfl (hb hby at_162) rfl rfl ?_
        show Steps p.tables e below (T69.setTop (mkF m 164 #[.val (.int x0), .val (.int x1), .val (.int (0 : Int32)), .val (.int (1 : Int32)), .val (.ref b1), .val (.ref b7), .val (.ref b14), .val (.ref b22), .val (.ref b59), .val (.int (0 : Int32))] [(.ref b59)])) _
        refine st72.trans ?_
        show Steps p.tables e below (T72.setTop (mkF m 167 #[.val (.int x0), .val (.int x1), .val (.int (0 : Int32)), .val (.int (1 : Int32)), .val (.ref b1), .val (.ref b7), .val (.ref b14), .val (.ref b22), .val (.ref b59), .val (.int (0 : Int32))] [(.int (adm (1 : Int32) (0 : Int32)))])) _
        refine XS.iload X72.here hx rfl (hb hby at_167) rfl ?_
        show Steps p.tables e below (T72.setTop (mkF m 169 #[.val (.int x0), .val (.int x1), .val (.int (0 : Int32)), .val (.int (1 : Int32)), .val (.ref b1), .val (.ref b7), .val (.ref b14), .val (.ref b22), .val (.ref b59), .val (.int (0 : Int32))] [(.int (0 : Int32)), (.int (adm (1 : Int32) (0 : Int32)))])) _
        refine XS.icmpNo X72.here hx rfl (hb hby at_169) rfl (teq (by decide)).2 ?_
        show Steps p.tables e below (T72.setTop (mkF m 172 #[.val (.int x0), .val (.int x1), .val (.int (0 : Int32)), .val (.int (1 : Int32)), .val (.ref b1), .val (.ref b7), .val (.ref b14), .val (.ref b22), .val (.ref b59), .val (.int (0 : Int32))] [])) _
        refine XS.iconst X72.here hx rfl (hb hby at_172) ?_
        show Steps p.tables e below (T72.setTop (mkF m 173 #[.val (.int x0), .val (.int x1), .val (.int (0 : Int32)), .val (.int (1 : Int32)), .val (.ref b1), .val (.ref b7), .val (.ref b14), .val (.ref b22), .val (.ref b59), .val (.int (0 : Int32))] [(.int (1 : Int32))])) _
        refine XS.goto X72.here hx rfl (pc0 := 173) (pc' := 177) rfl (hb hby at_173) (by decide) (by decide) ?_
        show Steps p.tables e below (T72.setTop (mkF m 177 #[.val (.int x0), .val (.int x1), .val (.int (0 : Int32)), .val (.int (1 : Int32)), .val (.ref b1), .val (.ref b7), .val (.ref b14), .val (.ref b22), .val (.ref b59), .val (.int (0 : Int32))] [(.int (1 : Int32))])) _
        exact retOut X72 hx Bd.returns rfl (Or.inl ⟨rfl, Or.inr (Or.inl rfl), _, rfl⟩) (hb hby at_177) hretL
      · show Q_rm0 Z x0 x1 de kde el tel kel em mr h0 n0 _ T72.heap _
        rw [eq72]
        exact ⟨rfl, N74⟩
    · have pre75 : ∀ tgt, Steps p.tables e below (T24.setTop (mkF m 89 #[.val (.int x0), .val (.int x1), .val (.int (0 : Int32)), .val (.int (2 : Int32)), .val (.ref b1), .val (.ref b7), .val (.ref b14), .val (.ref b22), .unset, .unset] [])) tgt → Steps p.tables e below (s₁.setTop (entryFrame m #[(.int x0), (.int x1)] maxLocals)) tgt := by
        have q := pre29
        rw [hqx1] at q
        exact q
      have f76 := (A22.keep kp24)
      have f77 := ((f20.ext E22).keep kp24)
      have f78 := ((f19.ext E22).keep kp24)
      have f79 := ((f21.ext E22).keep kp24)
      obtain ⟨cq80, kq80, q80a, q80b, q80c⟩ := isOf hZ rfl f76
      obtain ⟨_, _, ⟨T80, L80, k80, n80⟩, -, X80, ⟨Lc80, hQ80, l80, y80, z80⟩, st80⟩ := X24.virtualBack hx (y := (⟨"java/util/ArrayList", "add", "(Ljava/lang/Object;)Z"⟩ : MethodName)) (z := (⟨"java/util/ArrayList", "add", "(Ljava/lang/Object;)Z"⟩ : MethodName)) hown (mvT hZ (ow57 hw)) (mvT hZ (ow58 hw)) (notFace_of_selects (args := #[]) (mvT hZ (ow60 hw))) (mvT hZ (ow60 hw)) (mvT hZ (ow59 hw)) (by decide) (backOf (W := 0) (rmad0 l Z a0 hw [] b22 b7 de kde (0 : Int32) "com/example/atropos/atropos/ops/Excess$Rate" T24.heap n0 Ol26 Sde Ade f76 gm24 gs24 ge24 gn22 f77 (ow87 hw)) hZ (ow61 hw) (ow35 hw) (by decide) (by decide)) q80a q80c (g := (mkF m 98 #[.val (.int x0), .val (.int x1), .val (.int (0 : Int32)), .val (.int (2 : Int32)), .val (.ref b1), .val (.ref b7), .val (.ref b14), .val (.ref b22), .unset, .unset] [(.ref b7), (.ref b22)])) rfl (by rw [hml]; rfl) (Steps.refl _) (argsL := [(.ref b7)]) (rest := []) (lenOf pd18 rfl) rfl (by show 2 * 0 + _ ≤ _; exact Nat.le_of_eq rfl) (hb hby at_98) (fun _ _ => ⟨rfl, rfl, (by decide : 4 + 1 ≤ _), (by decide : 12 + 10 ≤ _)⟩)
      dsimp only [Pt.U, Pt.locs, Pt.cells, Pt.slots] at X80 l80 y80 z80 st80 hQ80
      subst l80 y80 z80
      obtain ⟨gb80, gk80, rfl, Nq80, kp80, gg80, gz80, go80, gE80, gm80, gs80, ge80, ga80⟩ := hQ80
      have N81 := Fr.app N25 Nq80
      have Ol82 := Ol26.keep kp80 (allS gn22 all0)
      have gne80_b1 : b1 ≠ gb80 := Nat.ne_of_lt (Nat.lt_of_lt_of_le f78.lt gz80)
      have gne80_b7 : b7 ≠ gb80 := Nat.ne_of_lt (Nat.lt_of_lt_of_le f77.lt gz80)
      have gne80_b14 : b14 ≠ gb80 := Nat.ne_of_lt (Nat.lt_of_lt_of_le f79.lt gz80)
      have gne80_b22 : b22 ≠ gb80 := Nat.ne_of_lt (Nat.lt_of_lt_of_le f76.lt gz80)
      have f83 := (f76.keep kp80)
      have f84 := (f77.keep kp80)
      have f85 := (f78.keep kp80)
      have f86 := (f79.keep kp80)
      obtain ⟨cq87, kq87, q87a, q87b, q87c⟩ := isOf hZ rfl f83
      obtain ⟨_, _, ⟨T87, L87, k87, n87⟩, -, X87, ⟨Lc87, hQ87, l87, y87, z87⟩, st87⟩ := X80.virtualBack hx (y := (⟨"java/util/ArrayList", "add", "(Ljava/lang/Object;)Z"⟩ : MethodName)) (z := (⟨"java/util/ArrayList", "add", "(Ljava/lang/Object;)Z"⟩ : MethodName)) hown (mvT hZ (ow57 hw)) (mvT hZ (ow58 hw)) (notFace_of_selects (args := #[]) (mvT hZ (ow60 hw))) (mvT hZ (ow60 hw)) (mvT hZ (ow59 hw)) (by decide) (backOf (W := 0) (rmad1 l Z a0 hw [] b22 b7 ((0 : Int32) + (1 : Int32)) gb80 gk80 "com/example/atropos/atropos/ops/Excess$Rate" T80.heap n0 Ol82 ga80 go80 gg80 gne80_b22 f83 gm80 gs80 ge80 gn22 f84 (ow87 hw)) hZ (ow61 hw) (ow35 hw) (by decide) (by decide)) q87a q87c (g := (mkF m 111 #[.val (.int x0), .val (.int x1), .val (.int (0 : Int32)), .val (.int (2 : Int32)), .val (.ref b1), .val (.ref b7), .val (.ref b14), .val (.ref b22), .unset, .unset] [(.ref b7), (.ref b22)])) rfl (by rw [hml]; rfl) (Steps.refl _) (argsL := [(.ref b7)]) (rest := []) (lenOf pd18 rfl) rfl (by show 2 * 0 + _ ≤ _; exact Nat.le_of_eq rfl) (hb hby at_111) (fun _ _ => ⟨rfl, rfl, (by decide : 5 + 0 ≤ _), (by decide : 22 + 0 ≤ _)⟩)
      dsimp only [Pt.U, Pt.locs, Pt.cells, Pt.slots] at X87 l87 y87 z87 st87 hQ87
      subst l87 y87 z87
      obtain ⟨rfl, Nq87, kp87, gm87, gs87, ge87, ga87⟩ := hQ87
      have N88 := Fr.app N81 Nq87
      have Ol89 := Ol82.keep kp87 (allS gn22 (allS gg80 all0))
      have f90 := (f85.keep kp87)
      have f91 := (f84.keep kp87)
      have f92 := (f86.keep kp87)
      have f93 := (f83.keep kp87)
      have f94 := (gE80.keep kp87)
      obtain ⟨T95, h95, X95, e95, E95, A95, D95, U95, st95⟩ := newO X87 hx hZ hown (ow88 hw) (ow89 hw) (ow90 hw) rfl (g := (mkF m 128 #[.val (.int x0), .val (.int x1), .val (.int (0 : Int32)), .val (.int (2 : Int32)), .val (.ref b1), .val (.ref b7), .val (.ref b14), .val (.ref b22), .unset, .unset] [])) rfl (hb hby at_128) (by decide) (by decide)
      obtain ⟨b95, g95⟩ : ∃ z, z = T87.heap.size := ⟨_, rfl⟩
      rw [← g95] at A95 D95 U95 st95
      have gn95 : n0 ≤ b95 := Nat.le_trans (own_sz Ol89) (Nat.le_of_eq g95.symm)
      have neb1_95 : b1 ≠ b95 := Nat.ne_of_lt (Nat.lt_of_lt_of_le f90.lt (Nat.le_of_eq g95.symm))
      have neb7_95 : b7 ≠ b95 := Nat.ne_of_lt (Nat.lt_of_lt_of_le f91.lt (Nat.le_of_eq g95.symm))
      have neb14_95 : b14 ≠ b95 := Nat.ne_of_lt (Nat.lt_of_lt_of_le f92.lt (Nat.le_of_eq g95.symm))
      have neb22_95 : b22 ≠ b95 := Nat.ne_of_lt (Nat.lt_of_lt_of_le f93.lt (Nat.le_of_eq g95.symm))
      have negb80_95 : gb80 ≠ b95 := Nat.ne_of_lt (Nat.lt_of_lt_of_le f94.lt (Nat.le_of_eq g95.symm))
      have Ol96 := Ol89.ext E95
      have FserviceExceeded_95 : Fld Z h95 b95 "com/example/atropos/atropos/analysis/Admission" "serviceExceeded" "Ljava/util/List;" .null := D95 (Or.inr (ow188 hw)) (ty := (.object "java/util/List")) (by decide)
      have FrateExceeded_95 : Fld Z h95 b95 "com/example/atropos/atropos/analysis/Admission" "rateExceeded" "Ljava/util/List;" .null := D95 (Or.inr (ow190 hw)) (ty := (.object "java/util/List")) (by decide)
      have f97 := (f92.ext E95)
      have f98 := (((((gs16.ext E22).keep kp24 (ninS neb14_22 nin0)).keep kp80 (ninS neb14_22 nin0)).keep kp87 (ninS neb14_22 (ninS gne80_b14 nin0))).ext E95)
      have f99 := (f93.ext E95)
      have f100 := (gs87.ext E95)
      have f101 := (ge87.ext E95)
      have f102 := (ga87.ext E95)
      have f103 := (f94.ext E95)
      have f104 := (f91.ext E95)
      obtain ⟨_, _, ⟨T105, L105, k105, n105⟩, -, X105, ⟨Lc105, hQ105, l105, y105, z105⟩, st105⟩ := X95.specialBack hx (y := (⟨"com/example/atropos/atropos/analysis/Admission", "<init>", "(Ljava/util/List;Ljava/util/List;)V"⟩ : MethodName)) rfl hown (mvT hZ (ow91 hw)) (mvT hZ (ow92 hw)) (mvT hZ (ow93 hw)) (by decide) (backOf (W := 1) (rmadm l Z a0 hw [] b95 b14 b22 (1 : Int32) (0 : Int32) el tel kel em mr h95 n0 Ol96 A95 FserviceExceeded_95 FrateExceeded_95 gn95 (Or.inl ⟨rfl, f97, f98⟩) (Or.inr (Or.inr (Or.inl ⟨b7, _, gb80, _, rfl, f99, f100, f101, f102, f103, f104, (ow87 hw)⟩))) Sel Sem hM Eel Fel Ael) hZ (ow93 hw) (ow90 hw) (by decide) (by decide)) (g := (mkF m 136 #[.val (.int x0), .val (.int x1), .val (.int (0 : Int32)), .val (.int (2 : Int32)), .val (.ref b1), .val (.ref b7), .val (.ref b14), .val (.ref b22), .unset, .unset] [(.ref b22), (.ref b14), (.ref b95), (.ref b95)])) rfl (by rw [hml]; rfl) (Steps.refl _) (a := b95) (argsL := [(.ref b14), (.ref b22)]) (rest := [(.ref b95)]) (lenOf pd17 rfl) rfl (by show 2 * 0 + _ ≤ _; exact Nat.le_of_eq rfl) (hb hby at_136) (fun _ _ => ⟨rfl, e95, (by decide : 6 + 6 ≤ _), (by decide : 24 + 16 ≤ _)⟩)
      dsimp only [Pt.U, Pt.locs, Pt.cells, Pt.slots] at X105 l105 y105 z105 st105 hQ105
      subst l105 y105 z105
      obtain ⟨r1105, r2105, rfl, Nq105, kp105, f1105, f2105, e1105, e2105⟩ := hQ105
      have N106 := Fr.app N88 Nq105
      have Ol107 := Ol96.keep kp105 (allS gn95 all0)
      have f109 := (A95.keep kp105)
      obtain ⟨cq108, kq108, q108a, q108b, q108c⟩ := isOf hZ rfl f109
      obtain ⟨_, _, ⟨T108, L108, k108, n108⟩, -, X108, ⟨Lc108, hQ108, l108, y108, z108⟩, st108⟩ := X105.virtualBack hx (y := (⟨"com/example/atropos/atropos/analysis/Admission", "admits", "()Z"⟩ : MethodName)) (z := (⟨"com/example/atropos/atropos/analysis/Admission", "admits", "()Z"⟩ : MethodName)) hown (mvT hZ (ow191 hw)) (mvT hZ (ow192 hw)) (notFace_of_selects (args := #[]) (mvT hZ (ow194 hw))) (mvT hZ (ow194 hw)) (mvT hZ (ow193 hw)) (by decide) (backOf (W := 0) (rmadt l Z a0 hw [] b95 r1105 r2105 (1 : Int32) (0 : Int32) T105.heap n0 Ol107 f1105 f2105 e1105 e2105) hZ (ow195 hw) (ow90 hw) (by decide) (by decide)) q108a q108c (g := (mkF m 164 #[.val (.int x0), .val (.int x1), .val (.int (0 : Int32)), .val (.int (2 : Int32)), .val (.ref b1), .val (.ref b7), .val (.ref b14), .val (.ref b22), .val (.ref b95), .val (.int (0 : Int32))] [(.ref b95)])) rfl (by rw [hml]; rfl) (Steps.refl _) (argsL := []) (rest := []) (lenOf pd12 rfl) rfl (by show 2 * 0 + _ ≤ _; exact Nat.le_of_eq rfl) (hb hby at_164) (fun _ _ => ⟨rfl, rfl, (by decide : 12 + 0 ≤ _), (by decide : 40 + 0 ≤ _)⟩)
      dsimp only [Pt.U, Pt.locs, Pt.cells, Pt.slots] at X108 l108 y108 z108 st108 hQ108
      subst l108 y108 z108
      obtain ⟨rfl, Nq108, eq108⟩ := hQ108
      have N110 := Fr.app N106 Nq108
      obtain ⟨fs, hretL, hrun, hended, hW, hsame⟩ := X108.leave (v := some (.int (1 : Int32))) (fun h => by rw [Bd.returns] at h; cases h)
      refine ⟨_, _, pre75 _ ?_, hrun, hended, _, _, rfl, ?_, ⟨_, rfl⟩, hW, hsame.mono (by decide) (by decide)⟩
      · refine XS.iloadN X24.here hx rfl (hb hby at_89) rfl ?_
        show Steps p.tables e below (T24.setTop (mkF m 90 #[.val (.int x0), .val (.int x1), .val (.int (0 : Int32)), .val (.int (2 : Int32)), .val (.ref b1), .val (.ref b7), .val (.ref b14), .val (.ref b22), .unset, .unset] [(.int (2 : Int32))])) _
        refine XS.iconst X24.here hx rfl (hb hby at_90) ?_
        show Steps p.tables e below (T24.setTop (mkF m 91 #[.val (.int x0), .val (.int x1), .val (.int (0 : Int32)), .val (.int (2 : Int32)), .val (.ref b1), .val (.ref b7), .val (.ref b14), .val (.ref b22), .unset, .unset] [(.int (1 : Int32)), (.int (2 : Int32))])) _
        refine XS.icmpNo X24.here hx rfl (hb hby at_91) rfl (flt (by decide : ¬ ((2 : Int32) < (1 : Int32)))).1 ?_
        show Steps p.tables e below (T24.setTop (mkF m 94 #[.val (.int x0), .val (.int x1), .val (.int (0 : Int32)), .val (.int (2 : Int32)), .val (.ref b1), .val (.ref b7), .val (.ref b14), .val (.ref b22), .unset, .unset] [])) _
        refine XS.aload X24.here hx rfl (hb hby at_94) rfl rfl ?_
        show Steps p.tables e below (T24.setTop (mkF m 96 #[.val (.int x0), .val (.int x1), .val (.int (0 : Int32)), .val (.int (2 : Int32)), .val (.ref b1), .val (.ref b7), .val (.ref b14), .val (.ref b22), .unset, .unset] [(.ref b22)])) _
        refine XS.aload X24.here hx rfl (hb hby at_96) rfl rfl ?_
        show Steps p.tables e below (T24.setTop (mkF m 98 #[.val (.int x0), .val (.int x1), .val (.int (0 : Int32)), .val (.int (2 : Int32)), .val (.ref b1), .val (.ref b7), .val (.ref b14), .val (.ref b22), .unset, .unset] [(.ref b7), (.ref b22)])) _
        refine st80.trans ?_
        show Steps p.tables e below (T80.setTop (mkF m 101 #[.val (.int x0), .val (.int x1), .val (.int (0 : Int32)), .val (.int (2 : Int32)), .val (.ref b1), .val (.ref b7), .val (.ref b14), .val (.ref b22), .unset, .unset] [(.int (1 : Int32))])) _
        refine XS.pop X80.here hx rfl (hb hby at_101) rfl rfl ?_
        show Steps p.tables e below (T80.setTop (mkF m 102 #[.val (.int x0), .val (.int x1), .val (.int (0 : Int32)), .val (.int (2 : Int32)), .val (.ref b1), .val (.ref b7), .val (.ref b14), .val (.ref b22), .unset, .unset] [])) _
        refine XS.iloadN X80.here hx rfl (hb hby at_102) rfl ?_
        show Steps p.tables e below (T80.setTop (mkF m 103 #[.val (.int x0), .val (.int x1), .val (.int (0 : Int32)), .val (.int (2 : Int32)), .val (.ref b1), .val (.ref b7), .val (.ref b14), .val (.ref b22), .unset, .unset] [(.int (2 : Int32))])) _
        refine XS.iconst X80.here hx rfl (hb hby at_103) ?_
        show Steps p.tables e below (T80.setTop (mkF m 104 #[.val (.int x0), .val (.int x1), .val (.int (0 : Int32)), .val (.int (2 : Int32)), .val (.ref b1), .val (.ref b7), .val (.ref b14), .val (.ref b22), .unset, .unset] [(.int (2 : Int32)), (.int (2 : Int32))])) _
        refine XS.icmpNo X80.here hx rfl (hb hby at_104) rfl (flt (by decide : ¬ ((2 : Int32) < (2 : Int32)))).1 ?_
        show Steps p.tables e below (T80.setTop (mkF m 107 #[.val (.int x0), .val (.int x1), .val (.int (0 : Int32)), .val (.int (2 : Int32)), .val (.ref b1), .val (.ref b7), .val (.ref b14), .val (.ref b22), .unset, .unset] [])) _
        refine XS.aload X80.here hx rfl (hb hby at_107) rfl rfl ?_
        show Steps p.tables e below (T80.setTop (mkF m 109 #[.val (.int x0), .val (.int x1), .val (.int (0 : Int32)), .val (.int (2 : Int32)), .val (.ref b1), .val (.ref b7), .val (.ref b14), .val (.ref b22), .unset, .unset] [(.ref b22)])) _
        refine XS.aload X80.here hx rfl (hb hby at_109) rfl rfl ?_
        show Steps p.tables e below (T80.setTop (mkF m 111 #[.val (.int x0), .val (.int x1), .val (.int (0 : Int32)), .val (.int (2 : Int32)), .val (.ref b1), .val (.ref b7), .val (.ref b14), .val (.ref b22), .unset, .unset] [(.ref b7), (.ref b22)])) _
        refine st87.trans ?_
        show Steps p.tables e below (T87.setTop (mkF m 114 #[.val (.int x0), .val (.int x1), .val (.int (0 : Int32)), .val (.int (2 : Int32)), .val (.ref b1), .val (.ref b7), .val (.ref b14), .val (.ref b22), .unset, .unset] [(.int (1 : Int32))])) _
        refine XS.pop X87.here hx rfl (hb hby at_114) rfl rfl ?_
        show Steps p.tables e below (T87.setTop (mkF m 115 #[.val (.int x0), .val (.int x1), .val (.int (0 : Int32)), .val (.int (2 : Int32)), .val (.ref b1), .val (.ref b7), .val (.ref b14), .val (.ref b22), .unset, .unset] [])) _
        refine XS.iloadN X87.here hx rfl (hb hby at_115) rfl ?_
        show Steps p.tables e below (T87.setTop (mkF m 116 #[.val (.int x0), .val (.int x1), .val (.int (0 : Int32)), .val (.int (2 : Int32)), .val (.ref b1), .val (.ref b7), .val (.ref b14), .val (.ref b22), .unset, .unset] [(.int (2 : Int32))])) _
        refine XS.iconst X87.here hx rfl (hb hby at_116) ?_
        show Steps p.tables e below (T87.setTop (mkF m 117 #[.val (.int x0), .val (.int x1), .val (.int (0 : Int32)), .val (.int (2 : Int32)), .val (.ref b1), .val (.ref b7), .val (.ref b14), .val (.ref b22), .unset, .unset] [(.int (3 : Int32)), (.int (2 : Int32))])) _
        refine XS.icmpYes X87.here hx rfl (pc0 := 117) (pc' := 128) rfl (hb hby at_117) rfl (tlt (by decide : (2 : Int32) < (3 : Int32))).1 (by decide) (by decide) ?_
        show Steps p.tables e below (T87.setTop (mkF m 128 #[.val (.int x0), .val (.int x1), .val (.int (0 : Int32)), .val (.int (2 : Int32)), .val (.ref b1), .val (.ref b7), .val (.ref b14), .val (.ref b22), .unset, .unset] [])) _
        refine st95 _ ?_
        show Steps p.tables e below (T95.setTop (mkF m 131 #[.val (.int x0), .val (.int x1), .val (.int (0 : Int32)), .val (.int (2 : Int32)), .val (.ref b1), .val (.ref b7), .val (.ref b14), .val (.ref b22), .unset, .unset] [(.ref b95)])) _
        refine XS.dup X95.here hx rfl (hb hby at_131) rfl rfl ?_
        show Steps p.tables e below (T95.setTop (mkF m 132 #[.val (.int x0), .val (.int x1), .val (.int (0 : Int32)), .val (.int (2 : Int32)), .val (.ref b1), .val (.ref b7), .val (.ref b14), .val (.ref b22), .unset, .unset] [(.ref b95), (.ref b95)])) _
        refine XS.aload X95.here hx rfl (hb hby at_132) rfl rfl ?_
        show Steps p.tables e below (T95.setTop (mkF m 134 #[.val (.int x0), .val (.int x1), .val (.int (0 : Int32)), .val (.int (2 : Int32)), .val (.ref b1), .val (.ref b7), .val (.ref b14), .val (.ref b22), .unset, .unset] [(.ref b14), (.ref b95), (.ref b95)])) _
        refine XS.aload X95.here hx rfl (hb hby at_134) rfl rfl ?_
        show Steps p.tables e below (T95.setTop (mkF m 136 #[.val (.int x0), .val (.int x1), .val (.int (0 : Int32)), .val (.int (2 : Int32)), .val (.ref b1), .val (.ref b7), .val (.ref b14), .val (.ref b22), .unset, .unset] [(.ref b22), (.ref b14), (.ref b95), (.ref b95)])) _
        refine st105.trans ?_
        show Steps p.tables e below (T105.setTop (mkF m 139 #[.val (.int x0), .val (.int x1), .val (.int (0 : Int32)), .val (.int (2 : Int32)), .val (.ref b1), .val (.ref b7), .val (.ref b14), .val (.ref b22), .unset, .unset] [(.ref b95)])) _
        refine XS.astore X105.here hx rfl (hb hby at_139) rfl rfl (l' := #[.val (.int x0), .val (.int x1), .val (.int (0 : Int32)), .val (.int (2 : Int32)), .val (.ref b1), .val (.ref b7), .val (.ref b14), .val (.ref b22), .val (.ref b95), .unset]) rfl ?_
        show Steps p.tables e below (T105.setTop (mkF m 141 #[.val (.int x0), .val (.int x1), .val (.int (0 : Int32)), .val (.int (2 : Int32)), .val (.ref b1), .val (.ref b7), .val (.ref b14), .val (.ref b22), .val (.ref b95), .unset] [])) _
        refine XS.iloadN X105.here hx rfl (hb hby at_141) rfl ?_
        show Steps p.tables e below (T105.setTop (mkF m 142 #[.val (.int x0), .val (.int x1), .val (.int (0 : Int32)), .val (.int (2 : Int32)), .val (.ref b1), .val (.ref b7), .val (.ref b14), .val (.ref b22), .val (.ref b95), .unset] [(.int (0 : Int32))])) _
        refine XS.ifNo X105.here hx rfl (hb hby at_142) rfl ((if0 _ _).trans (teq (by decide : (0 : Int32) = (0 : Int32))).2) ?_
        show Steps p.tables e below (T105.setTop (mkF m 145 #[.val (.int x0), .val (.int x1), .val (.int (0 : Int32)), .val (.int (2 : Int32)), .val (.ref b1), .val (.ref b7), .val (.ref b14), .val (.ref b22), .val (.ref b95), .unset] [])) _
        refine XS.iloadN X105.here hx rfl (hb hby at_145) rfl ?_
        show Steps p.tables e below (T105.setTop (mkF m 146 #[.val (.int x0), .val (.int x1), .val (.int (0 : Int32)), .val (.int (2 : Int32)), .val (.ref b1), .val (.ref b7), .val (.ref b14), .val (.ref b22), .val (.ref b95), .unset] [(.int (2 : Int32))])) _
        refine XS.ifYes X105.here hx rfl (pc0 := 146) (pc' := 153) rfl (hb hby at_146) rfl ((if0 _ _).trans (feq (by decide : ¬ ((2 : Int32) = (0 : Int32)))).2) (by decide) (by decide) ?_
        show Steps p.tables e below (T105.setTop (mkF m 153 #[.val (.int x0), .val (.int x1), .val (.int (0 : Int32)), .val (.int (2 : Int32)), .val (.ref b1), .val (.ref b7), .val (.ref b14), .val (.ref b22), .val (.ref b95), .unset] [])) _
        refine XS.iconst X105.here hx rfl (hb hby at_153) ?_
        show Steps p.tables e below (T105.setTop (mkF m 154 #[.val (.int x0), .val (.int x1), .val (.int (0 : Int32)), .val (.int (2 : Int32)), .val (.ref b1), .val (.ref b7), .val (.ref b14), .val (.ref b22), .val (.ref b95), .unset] [(.int (0 : Int32))])) _
        refine XS.istore X105.here hx rfl (hb hby at_154) rfl (l' := #[.val (.int x0), .val (.int x1), .val (.int (0 : Int32)), .val (.int (2 : Int32)), .val (.ref b1), .val (.ref b7), .val (.ref b14), .val (.ref b22), .val (.ref b95), .val (.int (0 : Int32))]) rfl ?_
        show Steps p.tables e below (T105.setTop (mkF m 156 #[.val (.int x0), .val (.int x1), .val (.int (0 : Int32)), .val (.int (2 : Int32)), .val (.ref b1), .val (.ref b7), .val (.ref b14), .val (.ref b22), .val (.ref b95), .val (.int (0 : Int32))] [])) _
        refine XS.goto X105.here hx rfl (pc0 := 156) (pc' := 162) rfl (hb hby at_156) (by decide) (by decide) ?_
        show Steps p.tables e below (T105.setTop (mkF m 162 #[.val (.int x0), .val (.int x1), .val (.int (0 : Int32)), .val (.int (2 : Int32)), .val (.ref b1), .val (.ref b7), .val (.ref b14), .val (.ref b22), .val (.ref b95), .val (.int (0 : Int32))] [])) _
        refine XS.aload X105.here hx rfl (hb hby at_162) rfl rfl ?_
        show Steps p.tables e below (T105.setTop (mkF m 164 #[.val (.int x0), .val (.int x1), .val (.int (0 : Int32)), .val (.int (2 : Int32)), .val (.ref b1), .val (.ref b7), .val (.ref b14), .val (.ref b22), .val (.ref b95), .val (.int (0 : Int32))] [(.ref b95)])) _
        refine st108.trans ?_
        show Steps p.tables e below (T108.setTop (mkF m 167 #[.val (.int x0), .val (.int x1), .val (.int (0 : Int32)), .val (.int (2 : Int32)), .val (.ref b1), .val (.ref b7), .val (.ref b14), .val (.ref b22), .val (.ref b95), .val (.int (0 : Int32))] [(.int (adm (1 : Int32) (0 : Int32)))])) _
        refine XS.iload X108.here hx rfl (hb hby at_167) rfl ?_
        show Steps p.tables e below (T108.setTop (mkF m 169 #[.val (.int x0), .val (.int x1), .val (.int (0 : Int32)), .val (.int (2 : Int32)), .val (.ref b1), .val (.ref b7), .val (.ref b14), .val (.ref b22), .val (.ref b95), .val (.int (0 : Int32))] [(.int (0 : Int32)), (.int (adm (1 : Int32) (0 : Int32)))])) _
        refine XS.icmpNo X108.here hx rfl (hb hby at_169) rfl (teq (by decide)).2 ?_
        show Steps p.tables e below (T108.setTop (mkF m 172 #[.val (.int x0), .val (.int x1), .val (.int (0 : Int32)), .val (.int (2 : Int32)), .val (.ref b1), .val (.ref b7), .val (.ref b14), .val (.ref b22), .val (.ref b95), .val (.int (0 : Int32))] [])) _
        refine XS.iconst X108.here hx rfl (hb hby at_172) ?_
        show Steps p.tables e below (T108.setTop (mkF m 173 #[.val (.int x0), .val (.int x1), .val (.int (0 : Int32)), .val (.int (2 : Int32)), .val (.ref b1), .val (.ref b7), .val (.ref b14), .val (.ref b22), .val (.ref b95), .val (.int (0 : Int32))] [(.int (1 : Int32))])) _
        refine XS.goto X108.here hx rfl (pc0 := 173) (pc' := 177) rfl (hb hby at_173) (by decide) (by decide) ?_
        show Steps p.tables e below (T108.setTop (mkF m 177 #[.val (.int x0), .val (.int x1), .val (.int (0 : Int32)), .val (.int (2 : Int32)), .val (.ref b1), .val (.ref b7), .val (.ref b14), .val (.ref b22), .val (.ref b95), .val (.int (0 : Int32))] [(.int (1 : Int32))])) _
        exact retOut X108 hx Bd.returns rfl (Or.inl ⟨rfl, Or.inr (Or.inl rfl), _, rfl⟩) (hb hby at_177) hretL
      · show Q_rm0 Z x0 x1 de kde el tel kel em mr h0 n0 _ T108.heap _
        rw [eq108]
        exact ⟨rfl, N110⟩
    · have pre111 : ∀ tgt, Steps p.tables e below (T24.setTop (mkF m 89 #[.val (.int x0), .val (.int x1), .val (.int (0 : Int32)), .val (.int (3 : Int32)), .val (.ref b1), .val (.ref b7), .val (.ref b14), .val (.ref b22), .unset, .unset] [])) tgt → Steps p.tables e below (s₁.setTop (entryFrame m #[(.int x0), (.int x1)] maxLocals)) tgt := by
        have q := pre29
        rw [hqx1] at q
        exact q
      have f112 := (A22.keep kp24)
      have f113 := ((f20.ext E22).keep kp24)
      have f114 := ((f19.ext E22).keep kp24)
      have f115 := ((f21.ext E22).keep kp24)
      obtain ⟨cq116, kq116, q116a, q116b, q116c⟩ := isOf hZ rfl f112
      obtain ⟨_, _, ⟨T116, L116, k116, n116⟩, -, X116, ⟨Lc116, hQ116, l116, y116, z116⟩, st116⟩ := X24.virtualBack hx (y := (⟨"java/util/ArrayList", "add", "(Ljava/lang/Object;)Z"⟩ : MethodName)) (z := (⟨"java/util/ArrayList", "add", "(Ljava/lang/Object;)Z"⟩ : MethodName)) hown (mvT hZ (ow57 hw)) (mvT hZ (ow58 hw)) (notFace_of_selects (args := #[]) (mvT hZ (ow60 hw))) (mvT hZ (ow60 hw)) (mvT hZ (ow59 hw)) (by decide) (backOf (W := 0) (rmad0 l Z a0 hw [] b22 b7 de kde (0 : Int32) "com/example/atropos/atropos/ops/Excess$Rate" T24.heap n0 Ol26 Sde Ade f112 gm24 gs24 ge24 gn22 f113 (ow87 hw)) hZ (ow61 hw) (ow35 hw) (by decide) (by decide)) q116a q116c (g := (mkF m 98 #[.val (.int x0), .val (.int x1), .val (.int (0 : Int32)), .val (.int (3 : Int32)), .val (.ref b1), .val (.ref b7), .val (.ref b14), .val (.ref b22), .unset, .unset] [(.ref b7), (.ref b22)])) rfl (by rw [hml]; rfl) (Steps.refl _) (argsL := [(.ref b7)]) (rest := []) (lenOf pd18 rfl) rfl (by show 2 * 0 + _ ≤ _; exact Nat.le_of_eq rfl) (hb hby at_98) (fun _ _ => ⟨rfl, rfl, (by decide : 4 + 1 ≤ _), (by decide : 12 + 10 ≤ _)⟩)
      dsimp only [Pt.U, Pt.locs, Pt.cells, Pt.slots] at X116 l116 y116 z116 st116 hQ116
      subst l116 y116 z116
      obtain ⟨gb116, gk116, rfl, Nq116, kp116, gg116, gz116, go116, gE116, gm116, gs116, ge116, ga116⟩ := hQ116
      have N117 := Fr.app N25 Nq116
      have Ol118 := Ol26.keep kp116 (allS gn22 all0)
      have gne116_b1 : b1 ≠ gb116 := Nat.ne_of_lt (Nat.lt_of_lt_of_le f114.lt gz116)
      have gne116_b7 : b7 ≠ gb116 := Nat.ne_of_lt (Nat.lt_of_lt_of_le f113.lt gz116)
      have gne116_b14 : b14 ≠ gb116 := Nat.ne_of_lt (Nat.lt_of_lt_of_le f115.lt gz116)
      have gne116_b22 : b22 ≠ gb116 := Nat.ne_of_lt (Nat.lt_of_lt_of_le f112.lt gz116)
      have f119 := (f112.keep kp116)
      have f120 := (f113.keep kp116)
      have f121 := (f114.keep kp116)
      have f122 := (f115.keep kp116)
      obtain ⟨cq123, kq123, q123a, q123b, q123c⟩ := isOf hZ rfl f119
      obtain ⟨_, _, ⟨T123, L123, k123, n123⟩, -, X123, ⟨Lc123, hQ123, l123, y123, z123⟩, st123⟩ := X116.virtualBack hx (y := (⟨"java/util/ArrayList", "add", "(Ljava/lang/Object;)Z"⟩ : MethodName)) (z := (⟨"java/util/ArrayList", "add", "(Ljava/lang/Object;)Z"⟩ : MethodName)) hown (mvT hZ (ow57 hw)) (mvT hZ (ow58 hw)) (notFace_of_selects (args := #[]) (mvT hZ (ow60 hw))) (mvT hZ (ow60 hw)) (mvT hZ (ow59 hw)) (by decide) (backOf (W := 0) (rmad1 l Z a0 hw [] b22 b7 ((0 : Int32) + (1 : Int32)) gb116 gk116 "com/example/atropos/atropos/ops/Excess$Rate" T116.heap n0 Ol118 ga116 go116 gg116 gne116_b22 f119 gm116 gs116 ge116 gn22 f120 (ow87 hw)) hZ (ow61 hw) (ow35 hw) (by decide) (by decide)) q123a q123c (g := (mkF m 111 #[.val (.int x0), .val (.int x1), .val (.int (0 : Int32)), .val (.int (3 : Int32)), .val (.ref b1), .val (.ref b7), .val (.ref b14), .val (.ref b22), .unset, .unset] [(.ref b7), (.ref b22)])) rfl (by rw [hml]; rfl) (Steps.refl _) (argsL := [(.ref b7)]) (rest := []) (lenOf pd18 rfl) rfl (by show 2 * 0 + _ ≤ _; exact Nat.le_of_eq rfl) (hb hby at_111) (fun _ _ => ⟨rfl, rfl, (by decide : 5 + 0 ≤ _), (by decide : 22 + 0 ≤ _)⟩)
      dsimp only [Pt.U, Pt.locs, Pt.cells, Pt.slots] at X123 l123 y123 z123 st123 hQ123
      subst l123 y123 z123
      obtain ⟨rfl, Nq123, kp123, gm123, gs123, ge123, ga123⟩ := hQ123
      have N124 := Fr.app N117 Nq123
      have Ol125 := Ol118.keep kp123 (allS gn22 (allS gg116 all0))
      have f126 := (f119.keep kp123)
      have f127 := (f120.keep kp123)
      have f128 := (f121.keep kp123)
      have f129 := (f122.keep kp123)
      have f130 := (gE116.keep kp123)
      obtain ⟨cq131, kq131, q131a, q131b, q131c⟩ := isOf hZ rfl f126
      obtain ⟨_, _, ⟨T131, L131, k131, n131⟩, -, X131, ⟨Lc131, hQ131, l131, y131, z131⟩, st131⟩ := X123.virtualBack hx (y := (⟨"java/util/ArrayList", "add", "(Ljava/lang/Object;)Z"⟩ : MethodName)) (z := (⟨"java/util/ArrayList", "add", "(Ljava/lang/Object;)Z"⟩ : MethodName)) hown (mvT hZ (ow57 hw)) (mvT hZ (ow58 hw)) (notFace_of_selects (args := #[]) (mvT hZ (ow60 hw))) (mvT hZ (ow60 hw)) (mvT hZ (ow59 hw)) (by decide) (backOf (W := 0) (rmad2 l Z a0 hw [] b22 b7 (((0 : Int32) + (1 : Int32)) + (1 : Int32)) gb116 gk116 "com/example/atropos/atropos/ops/Excess$Rate" T123.heap n0 Ol125 ga123 go116 gg116 gne116_b22 f126 gm123 gs123 ge123 gn22 f127 (ow87 hw)) hZ (ow61 hw) (ow35 hw) (by decide) (by decide)) q131a q131c (g := (mkF m 124 #[.val (.int x0), .val (.int x1), .val (.int (0 : Int32)), .val (.int (3 : Int32)), .val (.ref b1), .val (.ref b7), .val (.ref b14), .val (.ref b22), .unset, .unset] [(.ref b7), (.ref b22)])) rfl (by rw [hml]; rfl) (Steps.refl _) (argsL := [(.ref b7)]) (rest := []) (lenOf pd18 rfl) rfl (by show 2 * 0 + _ ≤ _; exact Nat.le_of_eq rfl) (hb hby at_124) (fun _ _ => ⟨rfl, rfl, (by decide : 5 + 0 ≤ _), (by decide : 22 + 0 ≤ _)⟩)
      dsimp only [Pt.U, Pt.locs, Pt.cells, Pt.slots] at X131 l131 y131 z131 st131 hQ131
      subst l131 y131 z131
      obtain ⟨rfl, Nq131, kp131, gm131, gs131, ge131, ga131⟩ := hQ131
      have N132 := Fr.app N124 Nq131
      have Ol133 := Ol125.keep kp131 (allS gn22 (allS gg116 all0))
      have f134 := (f128.keep kp131)
      have f135 := (f127.keep kp131)
      have f136 := (f129.keep kp131)
      have f137 := (f126.keep kp131)
      have f138 := (f130.keep kp131)
      obtain ⟨T139, h139, X139, e139, E139, A139, D139, U139, st139⟩ := newO X131 hx hZ hown (ow88 hw) (ow89 hw) (ow90 hw) rfl (g := (mkF m 128 #[.val (.int x0), .val (.int x1), .val (.int (0 : Int32)), .val (.int (3 : Int32)), .val (.ref b1), .val (.ref b7), .val (.ref b14), .val (.ref b22), .unset, .unset] [])) rfl (hb hby at_128) (by decide) (by decide)
      obtain ⟨b139, g139⟩ : ∃ z, z = T131.heap.size := ⟨_, rfl⟩
      rw [← g139] at A139 D139 U139 st139
      have gn139 : n0 ≤ b139 := Nat.le_trans (own_sz Ol133) (Nat.le_of_eq g139.symm)
      have neb1_139 : b1 ≠ b139 := Nat.ne_of_lt (Nat.lt_of_lt_of_le f134.lt (Nat.le_of_eq g139.symm))
      have neb7_139 : b7 ≠ b139 := Nat.ne_of_lt (Nat.lt_of_lt_of_le f135.lt (Nat.le_of_eq g139.symm))
      have neb14_139 : b14 ≠ b139 := Nat.ne_of_lt (Nat.lt_of_lt_of_le f136.lt (Nat.le_of_eq g139.symm))
      have neb22_139 : b22 ≠ b139 := Nat.ne_of_lt (Nat.lt_of_lt_of_le f137.lt (Nat.le_of_eq g139.symm))
      have negb116_139 : gb116 ≠ b139 := Nat.ne_of_lt (Nat.lt_of_lt_of_le f138.lt (Nat.le_of_eq g139.symm))
      have Ol140 := Ol133.ext E139
      have FserviceExceeded_139 : Fld Z h139 b139 "com/example/atropos/atropos/analysis/Admission" "serviceExceeded" "Ljava/util/List;" .null := D139 (Or.inr (ow188 hw)) (ty := (.object "java/util/List")) (by decide)
      have FrateExceeded_139 : Fld Z h139 b139 "com/example/atropos/atropos/analysis/Admission" "rateExceeded" "Ljava/util/List;" .null := D139 (Or.inr (ow190 hw)) (ty := (.object "java/util/List")) (by decide)
      have f141 := (f136.ext E139)
      have f142 := ((((((gs16.ext E22).keep kp24 (ninS neb14_22 nin0)).keep kp116 (ninS neb14_22 nin0)).keep kp123 (ninS neb14_22 (ninS gne116_b14 nin0))).keep kp131 (ninS neb14_22 (ninS gne116_b14 nin0))).ext E139)
      have f143 := (f137.ext E139)
      have f144 := (gs131.ext E139)
      have f145 := (ge131.ext E139)
      have f146 := (ga131.ext E139)
      have f147 := (f138.ext E139)
      have f148 := (f135.ext E139)
      obtain ⟨_, _, ⟨T149, L149, k149, n149⟩, -, X149, ⟨Lc149, hQ149, l149, y149, z149⟩, st149⟩ := X139.specialBack hx (y := (⟨"com/example/atropos/atropos/analysis/Admission", "<init>", "(Ljava/util/List;Ljava/util/List;)V"⟩ : MethodName)) rfl hown (mvT hZ (ow91 hw)) (mvT hZ (ow92 hw)) (mvT hZ (ow93 hw)) (by decide) (backOf (W := 1) (rmadm l Z a0 hw [] b139 b14 b22 (1 : Int32) (0 : Int32) el tel kel em mr h139 n0 Ol140 A139 FserviceExceeded_139 FrateExceeded_139 gn139 (Or.inl ⟨rfl, f141, f142⟩) (Or.inr (Or.inr (Or.inr ⟨b7, _, gb116, _, rfl, f143, f144, f145, f146, f147, f148, (ow87 hw)⟩))) Sel Sem hM Eel Fel Ael) hZ (ow93 hw) (ow90 hw) (by decide) (by decide)) (g := (mkF m 136 #[.val (.int x0), .val (.int x1), .val (.int (0 : Int32)), .val (.int (3 : Int32)), .val (.ref b1), .val (.ref b7), .val (.ref b14), .val (.ref b22), .unset, .unset] [(.ref b22), (.ref b14), (.ref b139), (.ref b139)])) rfl (by rw [hml]; rfl) (Steps.refl _) (a := b139) (argsL := [(.ref b14), (.ref b22)]) (rest := [(.ref b139)]) (lenOf pd17 rfl) rfl (by show 2 * 0 + _ ≤ _; exact Nat.le_of_eq rfl) (hb hby at_136) (fun _ _ => ⟨rfl, e139, (by decide : 6 + 6 ≤ _), (by decide : 24 + 16 ≤ _)⟩)
      dsimp only [Pt.U, Pt.locs, Pt.cells, Pt.slots] at X149 l149 y149 z149 st149 hQ149
      subst l149 y149 z149
      obtain ⟨r1149, r2149, rfl, Nq149, kp149, f1149, f2149, e1149, e2149⟩ := hQ149
      have N150 := Fr.app N132 Nq149
      have Ol151 := Ol140.keep kp149 (allS gn139 all0)
      have f153 := (A139.keep kp149)
      obtain ⟨cq152, kq152, q152a, q152b, q152c⟩ := isOf hZ rfl f153
      obtain ⟨_, _, ⟨T152, L152, k152, n152⟩, -, X152, ⟨Lc152, hQ152, l152, y152, z152⟩, st152⟩ := X149.virtualBack hx (y := (⟨"com/example/atropos/atropos/analysis/Admission", "admits", "()Z"⟩ : MethodName)) (z := (⟨"com/example/atropos/atropos/analysis/Admission", "admits", "()Z"⟩ : MethodName)) hown (mvT hZ (ow191 hw)) (mvT hZ (ow192 hw)) (notFace_of_selects (args := #[]) (mvT hZ (ow194 hw))) (mvT hZ (ow194 hw)) (mvT hZ (ow193 hw)) (by decide) (backOf (W := 0) (rmadt l Z a0 hw [] b139 r1149 r2149 (1 : Int32) (0 : Int32) T149.heap n0 Ol151 f1149 f2149 e1149 e2149) hZ (ow195 hw) (ow90 hw) (by decide) (by decide)) q152a q152c (g := (mkF m 164 #[.val (.int x0), .val (.int x1), .val (.int (0 : Int32)), .val (.int (3 : Int32)), .val (.ref b1), .val (.ref b7), .val (.ref b14), .val (.ref b22), .val (.ref b139), .val (.int (0 : Int32))] [(.ref b139)])) rfl (by rw [hml]; rfl) (Steps.refl _) (argsL := []) (rest := []) (lenOf pd12 rfl) rfl (by show 2 * 0 + _ ≤ _; exact Nat.le_of_eq rfl) (hb hby at_164) (fun _ _ => ⟨rfl, rfl, (by decide : 12 + 0 ≤ _), (by decide : 40 + 0 ≤ _)⟩)
      dsimp only [Pt.U, Pt.locs, Pt.cells, Pt.slots] at X152 l152 y152 z152 st152 hQ152
      subst l152 y152 z152
      obtain ⟨rfl, Nq152, eq152⟩ := hQ152
      have N154 := Fr.app N150 Nq152
      obtain ⟨fs, hretL, hrun, hended, hW, hsame⟩ := X152.leave (v := some (.int (1 : Int32))) (fun h => by rw [Bd.returns] at h; cases h)
      refine ⟨_, _, pre111 _ ?_, hrun, hended, _, _, rfl, ?_, ⟨_, rfl⟩, hW, hsame.mono (by decide) (by decide)⟩
      · refine XS.iloadN X24.here hx rfl (hb hby at_89) rfl ?_
        show Steps p.tables e below (T24.setTop (mkF m 90 #[.val (.int x0), .val (.int x1), .val (.int (0 : Int32)), .val (.int (3 : Int32)), .val (.ref b1), .val (.ref b7), .val (.ref b14), .val (.ref b22), .unset, .unset] [(.int (3 : Int32))])) _
        refine XS.iconst X24.here hx rfl (hb hby at_90) ?_
        show Steps p.tables e below (T24.setTop (mkF m 91 #[.val (.int x0), .val (.int x1), .val (.int (0 : Int32)), .val (.int (3 : Int32)), .val (.ref b1), .val (.ref b7), .val (.ref b14), .val (.ref b22), .unset, .unset] [(.int (1 : Int32)), (.int (3 : Int32))])) _
        refine XS.icmpNo X24.here hx rfl (hb hby at_91) rfl (flt (by decide : ¬ ((3 : Int32) < (1 : Int32)))).1 ?_
        show Steps p.tables e below (T24.setTop (mkF m 94 #[.val (.int x0), .val (.int x1), .val (.int (0 : Int32)), .val (.int (3 : Int32)), .val (.ref b1), .val (.ref b7), .val (.ref b14), .val (.ref b22), .unset, .unset] [])) _
        refine XS.aload X24.here hx rfl (hb hby at_94) rfl rfl ?_
        show Steps p.tables e below (T24.setTop (mkF m 96 #[.val (.int x0), .val (.int x1), .val (.int (0 : Int32)), .val (.int (3 : Int32)), .val (.ref b1), .val (.ref b7), .val (.ref b14), .val (.ref b22), .unset, .unset] [(.ref b22)])) _
        refine XS.aload X24.here hx rfl (hb hby at_96) rfl rfl ?_
        show Steps p.tables e below (T24.setTop (mkF m 98 #[.val (.int x0), .val (.int x1), .val (.int (0 : Int32)), .val (.int (3 : Int32)), .val (.ref b1), .val (.ref b7), .val (.ref b14), .val (.ref b22), .unset, .unset] [(.ref b7), (.ref b22)])) _
        refine st116.trans ?_
        show Steps p.tables e below (T116.setTop (mkF m 101 #[.val (.int x0), .val (.int x1), .val (.int (0 : Int32)), .val (.int (3 : Int32)), .val (.ref b1), .val (.ref b7), .val (.ref b14), .val (.ref b22), .unset, .unset] [(.int (1 : Int32))])) _
        refine XS.pop X116.here hx rfl (hb hby at_101) rfl rfl ?_
        show Steps p.tables e below (T116.setTop (mkF m 102 #[.val (.int x0), .val (.int x1), .val (.int (0 : Int32)), .val (.int (3 : Int32)), .val (.ref b1), .val (.ref b7), .val (.ref b14), .val (.ref b22), .unset, .unset] [])) _
        refine XS.iloadN X116.here hx rfl (hb hby at_102) rfl ?_
        show Steps p.tables e below (T116.setTop (mkF m 103 #[.val (.int x0), .val (.int x1), .val (.int (0 : Int32)), .val (.int (3 : Int32)), .val (.ref b1), .val (.ref b7), .val (.ref b14), .val (.ref b22), .unset, .unset] [(.int (3 : Int32))])) _
        refine XS.iconst X116.here hx rfl (hb hby at_103) ?_
        show Steps p.tables e below (T116.setTop (mkF m 104 #[.val (.int x0), .val (.int x1), .val (.int (0 : Int32)), .val (.int (3 : Int32)), .val (.ref b1), .val (.ref b7), .val (.ref b14), .val (.ref b22), .unset, .unset] [(.int (2 : Int32)), (.int (3 : Int32))])) _
        refine XS.icmpNo X116.here hx rfl (hb hby at_104) rfl (flt (by decide : ¬ ((3 : Int32) < (2 : Int32)))).1 ?_
        show Steps p.tables e below (T116.setTop (mkF m 107 #[.val (.int x0), .val (.int x1), .val (.int (0 : Int32)), .val (.int (3 : Int32)), .val (.ref b1), .val (.ref b7), .val (.ref b14), .val (.ref b22), .unset, .unset] [])) _
        refine XS.aload X116.here hx rfl (hb hby at_107) rfl rfl ?_
        show Steps p.tables e below (T116.setTop (mkF m 109 #[.val (.int x0), .val (.int x1), .val (.int (0 : Int32)), .val (.int (3 : Int32)), .val (.ref b1), .val (.ref b7), .val (.ref b14), .val (.ref b22), .unset, .unset] [(.ref b22)])) _
        refine XS.aload X116.here hx rfl (hb hby at_109) rfl rfl ?_
        show Steps p.tables e below (T116.setTop (mkF m 111 #[.val (.int x0), .val (.int x1), .val (.int (0 : Int32)), .val (.int (3 : Int32)), .val (.ref b1), .val (.ref b7), .val (.ref b14), .val (.ref b22), .unset, .unset] [(.ref b7), (.ref b22)])) _
        refine st123.trans ?_
        show Steps p.tables e below (T123.setTop (mkF m 114 #[.val (.int x0), .val (.int x1), .val (.int (0 : Int32)), .val (.int (3 : Int32)), .val (.ref b1), .val (.ref b7), .val (.ref b14), .val (.ref b22), .unset, .unset] [(.int (1 : Int32))])) _
        refine XS.pop X123.here hx rfl (hb hby at_114) rfl rfl ?_
        show Steps p.tables e below (T123.setTop (mkF m 115 #[.val (.int x0), .val (.int x1), .val (.int (0 : Int32)), .val (.int (3 : Int32)), .val (.ref b1), .val (.ref b7), .val (.ref b14), .val (.ref b22), .unset, .unset] [])) _
        refine XS.iloadN X123.here hx rfl (hb hby at_115) rfl ?_
        show Steps p.tables e below (T123.setTop (mkF m 116 #[.val (.int x0), .val (.int x1), .val (.int (0 : Int32)), .val (.int (3 : Int32)), .val (.ref b1), .val (.ref b7), .val (.ref b14), .val (.ref b22), .unset, .unset] [(.int (3 : Int32))])) _
        refine XS.iconst X123.here hx rfl (hb hby at_116) ?_
        show Steps p.tables e below (T123.setTop (mkF m 117 #[.val (.int x0), .val (.int x1), .val (.int (0 : Int32)), .val (.int (3 : Int32)), .val (.ref b1), .val (.ref b7), .val (.ref b14), .val (.ref b22), .unset, .unset] [(.int (3 : Int32)), (.int (3 : Int32))])) _
        refine XS.icmpNo X123.here hx rfl (hb hby at_117) rfl (flt (by decide : ¬ ((3 : Int32) < (3 : Int32)))).1 ?_
        show Steps p.tables e below (T123.setTop (mkF m 120 #[.val (.int x0), .val (.int x1), .val (.int (0 : Int32)), .val (.int (3 : Int32)), .val (.ref b1), .val (.ref b7), .val (.ref b14), .val (.ref b22), .unset, .unset] [])) _
        refine XS.aload X123.here hx rfl (hb hby at_120) rfl rfl ?_
        show Steps p.tables e below (T123.setTop (mkF m 122 #[.val (.int x0), .val (.int x1), .val (.int (0 : Int32)), .val (.int (3 : Int32)), .val (.ref b1), .val (.ref b7), .val (.ref b14), .val (.ref b22), .unset, .unset] [(.ref b22)])) _
        refine XS.aload X123.here hx rfl (hb hby at_122) rfl rfl ?_
        show Steps p.tables e below (T123.setTop (mkF m 124 #[.val (.int x0), .val (.int x1), .val (.int (0 : Int32)), .val (.int (3 : Int32)), .val (.ref b1), .val (.ref b7), .val (.ref b14), .val (.ref b22), .unset, .unset] [(.ref b7), (.ref b22)])) _
        refine st131.trans ?_
        show Steps p.tables e below (T131.setTop (mkF m 127 #[.val (.int x0), .val (.int x1), .val (.int (0 : Int32)), .val (.int (3 : Int32)), .val (.ref b1), .val (.ref b7), .val (.ref b14), .val (.ref b22), .unset, .unset] [(.int (1 : Int32))])) _
        refine XS.pop X131.here hx rfl (hb hby at_127) rfl rfl ?_
        show Steps p.tables e below (T131.setTop (mkF m 128 #[.val (.int x0), .val (.int x1), .val (.int (0 : Int32)), .val (.int (3 : Int32)), .val (.ref b1), .val (.ref b7), .val (.ref b14), .val (.ref b22), .unset, .unset] [])) _
        refine st139 _ ?_
        show Steps p.tables e below (T139.setTop (mkF m 131 #[.val (.int x0), .val (.int x1), .val (.int (0 : Int32)), .val (.int (3 : Int32)), .val (.ref b1), .val (.ref b7), .val (.ref b14), .val (.ref b22), .unset, .unset] [(.ref b139)])) _
        refine XS.dup X139.here hx rfl (hb hby at_131) rfl rfl ?_
        show Steps p.tables e below (T139.setTop (mkF m 132 #[.val (.int x0), .val (.int x1), .val (.int (0 : Int32)), .val (.int (3 : Int32)), .val (.ref b1), .val (.ref b7), .val (.ref b14), .val (.ref b22), .unset, .unset] [(.ref b139), (.ref b139)])) _
        refine XS.aload X139.here hx rfl (hb hby at_132) rfl rfl ?_
        show Steps p.tables e below (T139.setTop (mkF m 134 #[.val (.int x0), .val (.int x1), .val (.int (0 : Int32)), .val (.int (3 : Int32)), .val (.ref b1), .val (.ref b7), .val (.ref b14), .val (.ref b22), .unset, .unset] [(.ref b14), (.ref b139), (.ref b139)])) _
        refine XS.aload X139.here hx rfl (hb hby at_134) rfl rfl ?_
        show Steps p.tables e below (T139.setTop (mkF m 136 #[.val (.int x0), .val (.int x1), .val (.int (0 : Int32)), .val (.int (3 : Int32)), .val (.ref b1), .val (.ref b7), .val (.ref b14), .val (.ref b22), .unset, .unset] [(.ref b22), (.ref b14), (.ref b139), (.ref b139)])) _
        refine st149.trans ?_
        show Steps p.tables e below (T149.setTop (mkF m 139 #[.val (.int x0), .val (.int x1), .val (.int (0 : Int32)), .val (.int (3 : Int32)), .val (.ref b1), .val (.ref b7), .val (.ref b14), .val (.ref b22), .unset, .unset] [(.ref b139)])) _
        refine XS.astore X149.here hx rfl (hb hby at_139) rfl rfl (l' := #[.val (.int x0), .val (.int x1), .val (.int (0 : Int32)), .val (.int (3 : Int32)), .val (.ref b1), .val (.ref b7), .val (.ref b14), .val (.ref b22), .val (.ref b139), .unset]) rfl ?_
        show Steps p.tables e below (T149.setTop (mkF m 141 #[.val (.int x0), .val (.int x1), .val (.int (0 : Int32)), .val (.int (3 : Int32)), .val (.ref b1), .val (.ref b7), .val (.ref b14), .val (.ref b22), .val (.ref b139), .unset] [])) _
        refine XS.iloadN X149.here hx rfl (hb hby at_141) rfl ?_
        show Steps p.tables e below (T149.setTop (mkF m 142 #[.val (.int x0), .val (.int x1), .val (.int (0 : Int32)), .val (.int (3 : Int32)), .val (.ref b1), .val (.ref b7), .val (.ref b14), .val (.ref b22), .val (.ref b139), .unset] [(.int (0 : Int32))])) _
        refine XS.ifNo X149.here hx rfl (hb hby at_142) rfl ((if0 _ _).trans (teq (by decide : (0 : Int32) = (0 : Int32))).2) ?_
        show Steps p.tables e below (T149.setTop (mkF m 145 #[.val (.int x0), .val (.int x1), .val (.int (0 : Int32)), .val (.int (3 : Int32)), .val (.ref b1), .val (.ref b7), .val (.ref b14), .val (.ref b22), .val (.ref b139), .unset] [])) _
        refine XS.iloadN X149.here hx rfl (hb hby at_145) rfl ?_
        show Steps p.tables e below (T149.setTop (mkF m 146 #[.val (.int x0), .val (.int x1), .val (.int (0 : Int32)), .val (.int (3 : Int32)), .val (.ref b1), .val (.ref b7), .val (.ref b14), .val (.ref b22), .val (.ref b139), .unset] [(.int (3 : Int32))])) _
        refine XS.ifYes X149.here hx rfl (pc0 := 146) (pc' := 153) rfl (hb hby at_146) rfl ((if0 _ _).trans (feq (by decide : ¬ ((3 : Int32) = (0 : Int32)))).2) (by decide) (by decide) ?_
        show Steps p.tables e below (T149.setTop (mkF m 153 #[.val (.int x0), .val (.int x1), .val (.int (0 : Int32)), .val (.int (3 : Int32)), .val (.ref b1), .val (.ref b7), .val (.ref b14), .val (.ref b22), .val (.ref b139), .unset] [])) _
        refine XS.iconst X149.here hx rfl (hb hby at_153) ?_
        show Steps p.tables e below (T149.setTop (mkF m 154 #[.val (.int x0), .val (.int x1), .val (.int (0 : Int32)), .val (.int (3 : Int32)), .val (.ref b1), .val (.ref b7), .val (.ref b14), .val (.ref b22), .val (.ref b139), .unset] [(.int (0 : Int32))])) _
        refine XS.istore X149.here hx rfl (hb hby at_154) rfl (l' := #[.val (.int x0), .val (.int x1), .val (.int (0 : Int32)), .val (.int (3 : Int32)), .val (.ref b1), .val (.ref b7), .val (.ref b14), .val (.ref b22), .val (.ref b139), .val (.int (0 : Int32))]) rfl ?_
        show Steps p.tables e below (T149.setTop (mkF m 156 #[.val (.int x0), .val (.int x1), .val (.int (0 : Int32)), .val (.int (3 : Int32)), .val (.ref b1), .val (.ref b7), .val (.ref b14), .val (.ref b22), .val (.ref b139), .val (.int (0 : Int32))] [])) _
        refine XS.goto X149.here hx rfl (pc0 := 156) (pc' := 162) rfl (hb hby at_156) (by decide) (by decide) ?_
        show Steps p.tables e below (T149.setTop (mkF m 162 #[.val (.int x0), .val (.int x1), .val (.int (0 : Int32)), .val (.int (3 : Int32)), .val (.ref b1), .val (.ref b7), .val (.ref b14), .val (.ref b22), .val (.ref b139), .val (.int (0 : Int32))] [])) _
        refine XS.aload X149.here hx rfl (hb hby at_162) rfl rfl ?_
        show Steps p.tables e below (T149.setTop (mkF m 164 #[.val (.int x0), .val (.int x1), .val (.int (0 : Int32)), .val (.int (3 : Int32)), .val (.ref b1), .val (.ref b7), .val (.ref b14), .val (.ref b22), .val (.ref b139), .val (.int (0 : Int32))] [(.ref b139)])) _
        refine st152.trans ?_
        show Steps p.tables e below (T152.setTop (mkF m 167 #[.val (.int x0), .val (.int x1), .val (.int (0 : Int32)), .val (.int (3 : Int32)), .val (.ref b1), .val (.ref b7), .val (.ref b14), .val (.ref b22), .val (.ref b139), .val (.int (0 : Int32))] [(.int (adm (1 : Int32) (0 : Int32)))])) _
        refine XS.iload X152.here hx rfl (hb hby at_167) rfl ?_
        show Steps p.tables e below (T152.setTop (mkF m 169 #[.val (.int x0), .val (.int x1), .val (.int (0 : Int32)), .val (.int (3 : Int32)), .val (.ref b1), .val (.ref b7), .val (.ref b14), .val (.ref b22), .val (.ref b139), .val (.int (0 : Int32))] [(.int (0 : Int32)), (.int (adm (1 : Int32) (0 : Int32)))])) _
        refine XS.icmpNo X152.here hx rfl (hb hby at_169) rfl (teq (by decide)).2 ?_
        show Steps p.tables e below (T152.setTop (mkF m 172 #[.val (.int x0), .val (.int x1), .val (.int (0 : Int32)), .val (.int (3 : Int32)), .val (.ref b1), .val (.ref b7), .val (.ref b14), .val (.ref b22), .val (.ref b139), .val (.int (0 : Int32))] [])) _
        refine XS.iconst X152.here hx rfl (hb hby at_172) ?_
        show Steps p.tables e below (T152.setTop (mkF m 173 #[.val (.int x0), .val (.int x1), .val (.int (0 : Int32)), .val (.int (3 : Int32)), .val (.ref b1), .val (.ref b7), .val (.ref b14), .val (.ref b22), .val (.ref b139), .val (.int (0 : Int32))] [(.int (1 : Int32))])) _
        refine XS.goto X152.here hx rfl (pc0 := 173) (pc' := 177) rfl (hb hby at_173) (by decide) (by decide) ?_
        show Steps p.tables e below (T152.setTop (mkF m 177 #[.val (.int x0), .val (.int x1), .val (.int (0 : Int32)), .val (.int (3 : Int32)), .val (.ref b1), .val (.ref b7), .val (.ref b14), .val (.ref b22), .val (.ref b139), .val (.int (0 : Int32))] [(.int (1 : Int32))])) _
        exact retOut X152 hx Bd.returns rfl (Or.inl ⟨rfl, Or.inr (Or.inl rfl), _, rfl⟩) (hb hby at_177) hretL
      · show Q_rm0 Z x0 x1 de kde el tel kel em mr h0 n0 _ T152.heap _
        rw [eq152]
        exact ⟨rfl, N154⟩
  · have pre155 : ∀ tgt, Steps p.tables e below (T24.setTop (mkF m 50 #[.val (.int x0), .val (.int x1), .val (.int (1 : Int32)), .val (.int (x1 &&& (3 : Int32))), .val (.ref b1), .val (.ref b7), .val (.ref b14), .val (.ref b22), .unset, .unset] [])) tgt → Steps p.tables e below (s₁.setTop (entryFrame m #[(.int x0), (.int x1)] maxLocals)) tgt := by
      have q := pre27
      rw [hqx0] at q
      exact q
    have f156 := ((f21.ext E22).keep kp24)
    have f157 := ((gm16.ext E22).keep kp24 (ninS neb14_22 nin0))
    have f158 := ((gs16.ext E22).keep kp24 (ninS neb14_22 nin0))
    have f159 := ((ge16.ext E22).keep kp24 (ninS neb14_22 nin0))
    have f160 := ((f19.ext E22).keep kp24)
    have f161 := ((f20.ext E22).keep kp24)
    have f162 := (A22.keep kp24)
    obtain ⟨cq163, kq163, q163a, q163b, q163c⟩ := isOf hZ rfl f156
    obtain ⟨_, _, ⟨T163, L163, k163, n163⟩, -, X163, ⟨Lc163, hQ163, l163, y163, z163⟩, st163⟩ := X24.virtualBack hx (y := (⟨"java/util/ArrayList", "add", "(Ljava/lang/Object;)Z"⟩ : MethodName)) (z := (⟨"java/util/ArrayList", "add", "(Ljava/lang/Object;)Z"⟩ : MethodName)) hown (mvT hZ (ow57 hw)) (mvT hZ (ow58 hw)) (notFace_of_selects (args := #[]) (mvT hZ (ow60 hw))) (mvT hZ (ow60 hw)) (mvT hZ (ow59 hw)) (by decide) (backOf (W := 0) (rmad0 l Z a0 hw [] b14 b1 de kde (0 : Int32) "com/example/atropos/atropos/ops/Excess$Span" T24.heap n0 Ol26 Sde Ade f156 f157 f158 f159 gn14 f160 (ow205 hw)) hZ (ow61 hw) (ow35 hw) (by decide) (by decide)) q163a q163c (g := (mkF m 59 #[.val (.int x0), .val (.int x1), .val (.int (1 : Int32)), .val (.int (x1 &&& (3 : Int32))), .val (.ref b1), .val (.ref b7), .val (.ref b14), .val (.ref b22), .unset, .unset] [(.ref b1), (.ref b14)])) rfl (by rw [hml]; rfl) (Steps.refl _) (argsL := [(.ref b1)]) (rest := []) (lenOf pd18 rfl) rfl (by show 2 * 0 + _ ≤ _; exact Nat.le_of_eq rfl) (hb hby at_59) (fun _ _ => ⟨rfl, rfl, (by decide : 4 + 1 ≤ _), (by decide : 12 + 10 ≤ _)⟩)
    dsimp only [Pt.U, Pt.locs, Pt.cells, Pt.slots] at X163 l163 y163 z163 st163 hQ163
    subst l163 y163 z163
    obtain ⟨gb163, gk163, rfl, Nq163, kp163, gg163, gz163, go163, gE163, gm163, gs163, ge163, ga163⟩ := hQ163
    have N164 := Fr.app N25 Nq163
    have Ol165 := Ol26.keep kp163 (allS gn14 all0)
    have gne163_b1 : b1 ≠ gb163 := Nat.ne_of_lt (Nat.lt_of_lt_of_le f160.lt gz163)
    have gne163_b7 : b7 ≠ gb163 := Nat.ne_of_lt (Nat.lt_of_lt_of_le f161.lt gz163)
    have gne163_b14 : b14 ≠ gb163 := Nat.ne_of_lt (Nat.lt_of_lt_of_le f156.lt gz163)
    have gne163_b22 : b22 ≠ gb163 := Nat.ne_of_lt (Nat.lt_of_lt_of_le f162.lt gz163)
    have pre166 : ∀ tgt, Steps p.tables e below (T163.setTop (mkF m 89 #[.val (.int x0), .val (.int x1), .val (.int (1 : Int32)), .val (.int (x1 &&& (3 : Int32))), .val (.ref b1), .val (.ref b7), .val (.ref b14), .val (.ref b22), .unset, .unset] [])) tgt → Steps p.tables e below (s₁.setTop (entryFrame m #[(.int x0), (.int x1)] maxLocals)) tgt := by
      intro tgt kgo
      refine pre155 _ ?_
      refine XS.iloadN X24.here hx rfl (hb hby at_50) rfl ?_
      show Steps p.tables e below (T24.setTop (mkF m 51 #[.val (.int x0), .val (.int x1), .val (.int (1 : Int32)), .val (.int (x1 &&& (3 : Int32))), .val (.ref b1), .val (.ref b7), .val (.ref b14), .val (.ref b22), .unset, .unset] [(.int (1 : Int32))])) _
      refine XS.iconst X24.here hx rfl (hb hby at_51) ?_
      show Steps p.tables e below (T24.setTop (mkF m 52 #[.val (.int x0), .val (.int x1), .val (.int (1 : Int32)), .val (.int (x1 &&& (3 : Int32))), .val (.ref b1), .val (.ref b7), .val (.ref b14), .val (.ref b22), .unset, .unset] [(.int (1 : Int32)), (.int (1 : Int32))])) _
      refine XS.icmpNo X24.here hx rfl (hb hby at_52) rfl (flt (by decide : ¬ ((1 : Int32) < (1 : Int32)))).1 ?_
      show Steps p.tables e below (T24.setTop (mkF m 55 #[.val (.int x0), .val (.int x1), .val (.int (1 : Int32)), .val (.int (x1 &&& (3 : Int32))), .val (.ref b1), .val (.ref b7), .val (.ref b14), .val (.ref b22), .unset, .unset] [])) _
      refine XS.aload X24.here hx rfl (hb hby at_55) rfl rfl ?_
      show Steps p.tables e below (T24.setTop (mkF m 57 #[.val (.int x0), .val (.int x1), .val (.int (1 : Int32)), .val (.int (x1 &&& (3 : Int32))), .val (.ref b1), .val (.ref b7), .val (.ref b14), .val (.ref b22), .unset, .unset] [(.ref b14)])) _
      refine XS.aload X24.here hx rfl (hb hby at_57) rfl rfl ?_
      show Steps p.tables e below (T24.setTop (mkF m 59 #[.val (.int x0), .val (.int x1), .val (.int (1 : Int32)), .val (.int (x1 &&& (3 : Int32))), .val (.ref b1), .val (.ref b7), .val (.ref b14), .val (.ref b22), .unset, .unset] [(.ref b1), (.ref b14)])) _
      refine st163.trans ?_
      show Steps p.tables e below (T163.setTop (mkF m 62 #[.val (.int x0), .val (.int x1), .val (.int (1 : Int32)), .val (.int (x1 &&& (3 : Int32))), .val (.ref b1), .val (.ref b7), .val (.ref b14), .val (.ref b22), .unset, .unset] [(.int (1 : Int32))])) _
      refine XS.pop X163.here hx rfl (hb hby at_62) rfl rfl ?_
      show Steps p.tables e below (T163.setTop (mkF m 63 #[.val (.int x0), .val (.int x1), .val (.int (1 : Int32)), .val (.int (x1 &&& (3 : Int32))), .val (.ref b1), .val (.ref b7), .val (.ref b14), .val (.ref b22), .unset, .unset] [])) _
      refine XS.iloadN X163.here hx rfl (hb hby at_63) rfl ?_
      show Steps p.tables e below (T163.setTop (mkF m 64 #[.val (.int x0), .val (.int x1), .val (.int (1 : Int32)), .val (.int (x1 &&& (3 : Int32))), .val (.ref b1), .val (.ref b7), .val (.ref b14), .val (.ref b22), .unset, .unset] [(.int (1 : Int32))])) _
      refine XS.iconst X163.here hx rfl (hb hby at_64) ?_
      show Steps p.tables e below (T163.setTop (mkF m 65 #[.val (.int x0), .val (.int x1), .val (.int (1 : Int32)), .val (.int (x1 &&& (3 : Int32))), .val (.ref b1), .val (.ref b7), .val (.ref b14), .val (.ref b22), .unset, .unset] [(.int (2 : Int32)), (.int (1 : Int32))])) _
      refine XS.icmpYes X163.here hx rfl (pc0 := 65) (pc' := 76) rfl (hb hby at_65) rfl (tlt (by decide : (1 : Int32) < (2 : Int32))).1 (by decide) (by decide) ?_
      show Steps p.tables e below (T163.setTop (mkF m 76 #[.val (.int x0), .val (.int x1), .val (.int (1 : Int32)), .val (.int (x1 &&& (3 : Int32))), .val (.ref b1), .val (.ref b7), .val (.ref b14), .val (.ref b22), .unset, .unset] [])) _
      refine XS.iloadN X163.here hx rfl (hb hby at_76) rfl ?_
      show Steps p.tables e below (T163.setTop (mkF m 77 #[.val (.int x0), .val (.int x1), .val (.int (1 : Int32)), .val (.int (x1 &&& (3 : Int32))), .val (.ref b1), .val (.ref b7), .val (.ref b14), .val (.ref b22), .unset, .unset] [(.int (1 : Int32))])) _
      refine XS.iconst X163.here hx rfl (hb hby at_77) ?_
      show Steps p.tables e below (T163.setTop (mkF m 78 #[.val (.int x0), .val (.int x1), .val (.int (1 : Int32)), .val (.int (x1 &&& (3 : Int32))), .val (.ref b1), .val (.ref b7), .val (.ref b14), .val (.ref b22), .unset, .unset] [(.int (3 : Int32)), (.int (1 : Int32))])) _
      refine XS.icmpYes X163.here hx rfl (pc0 := 78) (pc' := 89) rfl (hb hby at_78) rfl (tlt (by decide : (1 : Int32) < (3 : Int32))).1 (by decide) (by decide) ?_
      show Steps p.tables e below (T163.setTop (mkF m 89 #[.val (.int x0), .val (.int x1), .val (.int (1 : Int32)), .val (.int (x1 &&& (3 : Int32))), .val (.ref b1), .val (.ref b7), .val (.ref b14), .val (.ref b22), .unset, .unset] [])) _
      exact kgo
    rcases own_and3 x1 with hqx1 | hqx1 | hqx1 | hqx1
    · have pre167 : ∀ tgt, Steps p.tables e below (T163.setTop (mkF m 89 #[.val (.int x0), .val (.int x1), .val (.int (1 : Int32)), .val (.int (0 : Int32)), .val (.ref b1), .val (.ref b7), .val (.ref b14), .val (.ref b22), .unset, .unset] [])) tgt → Steps p.tables e below (s₁.setTop (entryFrame m #[(.int x0), (.int x1)] maxLocals)) tgt := by
        have q := pre166
        rw [hqx1] at q
        exact q
      have f168 := (f160.keep kp163)
      have f169 := (f161.keep kp163)
      have f170 := (f156.keep kp163)
      have f171 := (f162.keep kp163)
      obtain ⟨T172, h172, X172, e172, E172, A172, D172, U172, st172⟩ := newO X163 hx hZ hown (ow88 hw) (ow89 hw) (ow90 hw) rfl (g := (mkF m 128 #[.val (.int x0), .val (.int x1), .val (.int (1 : Int32)), .val (.int (0 : Int32)), .val (.ref b1), .val (.ref b7), .val (.ref b14), .val (.ref b22), .unset, .unset] [])) rfl (hb hby at_128) (by decide) (by decide)
      obtain ⟨b172, g172⟩ : ∃ z, z = T163.heap.size := ⟨_, rfl⟩
      rw [← g172] at A172 D172 U172 st172
      have gn172 : n0 ≤ b172 := Nat.le_trans (own_sz Ol165) (Nat.le_of_eq g172.symm)
      have neb1_172 : b1 ≠ b172 := Nat.ne_of_lt (Nat.lt_of_lt_of_le f168.lt (Nat.le_of_eq g172.symm))
      have neb7_172 : b7 ≠ b172 := Nat.ne_of_lt (Nat.lt_of_lt_of_le f169.lt (Nat.le_of_eq g172.symm))
      have neb14_172 : b14 ≠ b172 := Nat.ne_of_lt (Nat.lt_of_lt_of_le f170.lt (Nat.le_of_eq g172.symm))
      have neb22_172 : b22 ≠ b172 := Nat.ne_of_lt (Nat.lt_of_lt_of_le f171.lt (Nat.le_of_eq g172.symm))
      have negb163_172 : gb163 ≠ b172 := Nat.ne_of_lt (Nat.lt_of_lt_of_le gE163.lt (Nat.le_of_eq g172.symm))
      have Ol173 := Ol165.ext E172
      have FserviceExceeded_172 : Fld Z h172 b172 "com/example/atropos/atropos/analysis/Admission" "serviceExceeded" "Ljava/util/List;" .null := D172 (Or.inr (ow188 hw)) (ty := (.object "java/util/List")) (by decide)
      have FrateExceeded_172 : Fld Z h172 b172 "com/example/atropos/atropos/analysis/Admission" "rateExceeded" "Ljava/util/List;" .null := D172 (Or.inr (ow190 hw)) (ty := (.object "java/util/List")) (by decide)
      have f174 := (f170.ext E172)
      have f175 := (gs163.ext E172)
      have f176 := (ge163.ext E172)
      have f177 := (ga163.ext E172)
      have f178 := (gE163.ext E172)
      have f179 := (f168.ext E172)
      have f180 := (f171.ext E172)
      have f181 := ((gs24.keep kp163 (ninS (Ne.symm neb14_22) nin0)).ext E172)
      obtain ⟨_, _, ⟨T182, L182, k182, n182⟩, -, X182, ⟨Lc182, hQ182, l182, y182, z182⟩, st182⟩ := X172.specialBack hx (y := (⟨"com/example/atropos/atropos/analysis/Admission", "<init>", "(Ljava/util/List;Ljava/util/List;)V"⟩ : MethodName)) rfl hown (mvT hZ (ow91 hw)) (mvT hZ (ow92 hw)) (mvT hZ (ow93 hw)) (by decide) (backOf (W := 1) (rmadm l Z a0 hw [] b172 b14 b22 (0 : Int32) (1 : Int32) el tel kel em mr h172 n0 Ol173 A172 FserviceExceeded_172 FrateExceeded_172 gn172 (Or.inr (Or.inl ⟨b1, _, gb163, _, rfl, f174, f175, f176, f177, f178, f179, (ow205 hw)⟩)) (Or.inl ⟨rfl, f180, f181⟩) Sel Sem hM Eel Fel Ael) hZ (ow93 hw) (ow90 hw) (by decide) (by decide)) (g := (mkF m 136 #[.val (.int x0), .val (.int x1), .val (.int (1 : Int32)), .val (.int (0 : Int32)), .val (.ref b1), .val (.ref b7), .val (.ref b14), .val (.ref b22), .unset, .unset] [(.ref b22), (.ref b14), (.ref b172), (.ref b172)])) rfl (by rw [hml]; rfl) (Steps.refl _) (a := b172) (argsL := [(.ref b14), (.ref b22)]) (rest := [(.ref b172)]) (lenOf pd17 rfl) rfl (by show 2 * 0 + _ ≤ _; exact Nat.le_of_eq rfl) (hb hby at_136) (fun _ _ => ⟨rfl, e172, (by decide : 6 + 6 ≤ _), (by decide : 24 + 16 ≤ _)⟩)
      dsimp only [Pt.U, Pt.locs, Pt.cells, Pt.slots] at X182 l182 y182 z182 st182 hQ182
      subst l182 y182 z182
      obtain ⟨r1182, r2182, rfl, Nq182, kp182, f1182, f2182, e1182, e2182⟩ := hQ182
      have N183 := Fr.app N164 Nq182
      have Ol184 := Ol173.keep kp182 (allS gn172 all0)
      have f186 := (A172.keep kp182)
      obtain ⟨cq185, kq185, q185a, q185b, q185c⟩ := isOf hZ rfl f186
      obtain ⟨_, _, ⟨T185, L185, k185, n185⟩, -, X185, ⟨Lc185, hQ185, l185, y185, z185⟩, st185⟩ := X182.virtualBack hx (y := (⟨"com/example/atropos/atropos/analysis/Admission", "admits", "()Z"⟩ : MethodName)) (z := (⟨"com/example/atropos/atropos/analysis/Admission", "admits", "()Z"⟩ : MethodName)) hown (mvT hZ (ow191 hw)) (mvT hZ (ow192 hw)) (notFace_of_selects (args := #[]) (mvT hZ (ow194 hw))) (mvT hZ (ow194 hw)) (mvT hZ (ow193 hw)) (by decide) (backOf (W := 0) (rmadt l Z a0 hw [] b172 r1182 r2182 (0 : Int32) (1 : Int32) T182.heap n0 Ol184 f1182 f2182 e1182 e2182) hZ (ow195 hw) (ow90 hw) (by decide) (by decide)) q185a q185c (g := (mkF m 164 #[.val (.int x0), .val (.int x1), .val (.int (1 : Int32)), .val (.int (0 : Int32)), .val (.ref b1), .val (.ref b7), .val (.ref b14), .val (.ref b22), .val (.ref b172), .val (.int (0 : Int32))] [(.ref b172)])) rfl (by rw [hml]; rfl) (Steps.refl _) (argsL := []) (rest := []) (lenOf pd12 rfl) rfl (by show 2 * 0 + _ ≤ _; exact Nat.le_of_eq rfl) (hb hby at_164) (fun _ _ => ⟨rfl, rfl, (by decide : 12 + 0 ≤ _), (by decide : 40 + 0 ≤ _)⟩)
      dsimp only [Pt.U, Pt.locs, Pt.cells, Pt.slots] at X185 l185 y185 z185 st185 hQ185
      subst l185 y185 z185
      obtain ⟨rfl, Nq185, eq185⟩ := hQ185
      have N187 := Fr.app N183 Nq185
      obtain ⟨fs, hretL, hrun, hended, hW, hsame⟩ := X185.leave (v := some (.int (1 : Int32))) (fun h => by rw [Bd.returns] at h; cases h)
      refine ⟨_, _, pre167 _ ?_, hrun, hended, _, _, rfl, ?_, ⟨_, rfl⟩, hW, hsame.mono (by decide) (by decide)⟩
      · refine XS.iloadN X163.here hx rfl (hb hby at_89) rfl ?_
        show Steps p.tables e below (T163.setTop (mkF m 90 #[.val (.int x0), .val (.int x1), .val (.int (1 : Int32)), .val (.int (0 : Int32)), .val (.ref b1), .val (.ref b7), .val (.ref b14), .val (.ref b22), .unset, .unset] [(.int (0 : Int32))])) _
        refine XS.iconst X163.here hx rfl (hb hby at_90) ?_
        show Steps p.tables e below (T163.setTop (mkF m 91 #[.val (.int x0), .val (.int x1), .val (.int (1 : Int32)), .val (.int (0 : Int32)), .val (.ref b1), .val (.ref b7), .val (.ref b14), .val (.ref b22), .unset, .unset] [(.int (1 : Int32)), (.int (0 : Int32))])) _
        refine XS.icmpYes X163.here hx rfl (pc0 := 91) (pc' := 102) rfl (hb hby at_91) rfl (tlt (by decide : (0 : Int32) < (1 : Int32))).1 (by decide) (by decide) ?_
        show Steps p.tables e below (T163.setTop (mkF m 102 #[.val (.int x0), .val (.int x1), .val (.int (1 : Int32)), .val (.int (0 : Int32)), .val (.ref b1), .val (.ref b7), .val (.ref b14), .val (.ref b22), .unset, .unset] [])) _
        refine XS.iloadN X163.here hx rfl (hb hby at_102) rfl ?_
        show Steps p.tables e below (T163.setTop (mkF m 103 #[.val (.int x0), .val (.int x1), .val (.int (1 : Int32)), .val (.int (0 : Int32)), .val (.ref b1), .val (.ref b7), .val (.ref b14), .val (.ref b22), .unset, .unset] [(.int (0 : Int32))])) _
        refine XS.iconst X163.here hx rfl (hb hby at_103) ?_
        show Steps p.tables e below (T163.setTop (mkF m 104 #[.val (.int x0), .val (.int x1), .val (.int (1 : Int32)), .val (.int (0 : Int32)), .val (.ref b1), .val (.ref b7), .val (.ref b14), .val (.ref b22), .unset, .unset] [(.int (2 : Int32)), (.int (0 : Int32))])) _
        refine XS.icmpYes X163.here hx rfl (pc0 := 104) (pc' := 115) rfl (hb hby at_104) rfl (tlt (by decide : (0 : Int32) < (2 : Int32))).1 (by decide) (by decide) ?_
        show Steps p.tables e below (T163.setTop (mkF m 115 #[.val (.int x0), .val (.int x1), .val (.int (1 : Int32)), .val (.int (0 : Int32)), .val (.ref b1), .val (.ref b7), .val (.ref b14), .val (.ref b22), .unset, .unset] [])) _
        refine XS.iloadN X163.here hx rfl (hb hby at_115) rfl ?_
        show Steps p.tables e below (T163.setTop (mkF m 116 #[.val (.int x0), .val (.int x1), .val (.int (1 : Int32)), .val (.int (0 : Int32)), .val (.ref b1), .val (.ref b7), .val (.ref b14), .val (.ref b22), .unset, .unset] [(.int (0 : Int32))])) _
        refine XS.iconst X163.here hx rfl (hb hby at_116) ?_
        show Steps p.tables e below (T163.setTop (mkF m 117 #[.val (.int x0), .val (.int x1), .val (.int (1 : Int32)), .val (.int (0 : Int32)), .val (.ref b1), .val (.ref b7), .val (.ref b14), .val (.ref b22), .unset, .unset] [(.int (3 : Int32)), (.int (0 : Int32))])) _
        refine XS.icmpYes X163.here hx rfl (pc0 := 117) (pc' := 128) rfl (hb hby at_117) rfl (tlt (by decide : (0 : Int32) < (3 : Int32))).1 (by decide) (by decide) ?_
        show Steps p.tables e below (T163.setTop (mkF m 128 #[.val (.int x0), .val (.int x1), .val (.int (1 : Int32)), .val (.int (0 : Int32)), .val (.ref b1), .val (.ref b7), .val (.ref b14), .val (.ref b22), .unset, .unset] [])) _
        refine st172 _ ?_
        show Steps p.tables e below (T172.setTop (mkF m 131 #[.val (.int x0), .val (.int x1), .val (.int (1 : Int32)), .val (.int (0 : Int32)), .val (.ref b1), .val (.ref b7), .val (.ref b14), .val (.ref b22), .unset, .unset] [(.ref b172)])) _
        refine XS.dup X172.here hx rfl (hb hby at_131) rfl rfl ?_
        show Steps p.tables e below (T172.setTop (mkF m 132 #[.val (.int x0), .val (.int x1), .val (.int (1 : Int32)), .val (.int (0 : Int32)), .val (.ref b1), .val (.ref b7), .val (.ref b14), .val (.ref b22), .unset, .unset] [(.ref b172), (.ref b172)])) _
        refine XS.aload X172.here hx rfl (hb hby at_132) rfl rfl ?_
        show Steps p.tables e below (T172.setTop (mkF m 134 #[.val (.int x0), .val (.int x1), .val (.int (1 : Int32)), .val (.int (0 : Int32)), .val (.ref b1), .val (.ref b7), .val (.ref b14), .val (.ref b22), .unset, .unset] [(.ref b14), (.ref b172), (.ref b172)])) _
        refine XS.aload X172.here hx rfl (hb hby at_134) rfl rfl ?_
        show Steps p.tables e below (T172.setTop (mkF m 136 #[.val (.int x0), .val (.int x1), .val (.int (1 : Int32)), .val (.int (0 : Int32)), .val (.ref b1), .val (.ref b7), .val (.ref b14), .val (.ref b22), .unset, .unset] [(.ref b22), (.ref b14), (.ref b172), (.ref b172)])) _
        refine st182.trans ?_
        show Steps p.tables e below (T182.setTop (mkF m 139 #[.val (.int x0), .val (.int x1), .val (.int (1 : Int32)), .val (.int (0 : Int32)), .val (.ref b1), .val (.ref b7), .val (.ref b14), .val (.ref b22), .unset, .unset] [(.ref b172)])) _
        refine XS.astore X182.here hx rfl (hb hby at_139) rfl rfl (l' := #[.val (.int x0), .val (.int x1), .val (.int (1 : Int32)), .val (.int (0 : Int32)), .val (.ref b1), .val (.ref b7), .val (.ref b14), .val (.ref b22), .val (.ref b172), .unset]) rfl ?_
        show Steps p.tables e below (T182.setTop (mkF m 141 #[.val (.int x0), .val (.int x1), .val (.int (1 : Int32)), .val (.int (0 : Int32)), .val (.ref b1), .val (.ref b7), .val (.ref b14), .val (.ref b22), .val (.ref b172), .unset] [])) _
        refine XS.iloadN X182.here hx rfl (hb hby at_141) rfl ?_
        show Steps p.tables e below (T182.setTop (mkF m 142 #[.val (.int x0), .val (.int x1), .val (.int (1 : Int32)), .val (.int (0 : Int32)), .val (.ref b1), .val (.ref b7), .val (.ref b14), .val (.ref b22), .val (.ref b172), .unset] [(.int (1 : Int32))])) _
        refine XS.ifYes X182.here hx rfl (pc0 := 142) (pc' := 159) rfl (hb hby at_142) rfl ((if0 _ _).trans (feq (by decide : ¬ ((1 : Int32) = (0 : Int32)))).2) (by decide) (by decide) ?_
        show Steps p.tables e below (T182.setTop (mkF m 159 #[.val (.int x0), .val (.int x1), .val (.int (1 : Int32)), .val (.int (0 : Int32)), .val (.ref b1), .val (.ref b7), .val (.ref b14), .val (.ref b22), .val (.ref b172), .unset] [])) _
        refine XS.iconst X182.here hx rfl (hb hby at_159) ?_
        show Steps p.tables e below (T182.setTop (mkF m 160 #[.val (.int x0), .val (.int x1), .val (.int (1 : Int32)), .val (.int (0 : Int32)), .val (.ref b1), .val (.ref b7), .val (.ref b14), .val (.ref b22), .val (.ref b172), .unset] [(.int (0 : Int32))])) _
        refine XS.istore X182.here hx rfl (hb hby at_160) rfl (l' := #[.val (.int x0), .val (.int x1), .val (.int (1 : Int32)), .val (.int (0 : Int32)), .val (.ref b1), .val (.ref b7), .val (.ref b14), .val (.ref b22), .val (.ref b172), .val (.int (0 : Int32))]) rfl ?_
        show Steps p.tables e below (T182.setTop (mkF m 162 #[.val (.int x0), .val (.int x1), .val (.int (1 : Int32)), .val (.int (0 : Int32)), .val (.ref b1), .val (.ref b7), .val (.ref b14), .val (.ref b22), .val (.ref b172), .val (.int (0 : Int32))] [])) _
        refine XS.aload X182.here hx rfl (hb hby at_162) rfl rfl ?_
        show Steps p.tables e below (T182.setTop (mkF m 164 #[.val (.int x0), .val (.int x1), .val (.int (1 : Int32)), .val (.int (0 : Int32)), .val (.ref b1), .val (.ref b7), .val (.ref b14), .val (.ref b22), .val (.ref b172), .val (.int (0 : Int32))] [(.ref b172)])) _
        refine st185.trans ?_
        show Steps p.tables e below (T185.setTop (mkF m 167 #[.val (.int x0), .val (.int x1), .val (.int (1 : Int32)), .val (.int (0 : Int32)), .val (.ref b1), .val (.ref b7), .val (.ref b14), .val (.ref b22), .val (.ref b172), .val (.int (0 : Int32))] [(.int (adm (0 : Int32) (1 : Int32)))])) _
        refine XS.iload X185.here hx rfl (hb hby at_167) rfl ?_
        show Steps p.tables e below (T185.setTop (mkF m 169 #[.val (.int x0), .val (.int x1), .val (.int (1 : Int32)), .val (.int (0 : Int32)), .val (.ref b1), .val (.ref b7), .val (.ref b14), .val (.ref b22), .val (.ref b172), .val (.int (0 : Int32))] [(.int (0 : Int32)), (.int (adm (0 : Int32) (1 : Int32)))])) _
        refine XS.icmpNo X185.here hx rfl (hb hby at_169) rfl (teq (by decide)).2 ?_
        show Steps p.tables e below (T185.setTop (mkF m 172 #[.val (.int x0), .val (.int x1), .val (.int (1 : Int32)), .val (.int (0 : Int32)), .val (.ref b1), .val (.ref b7), .val (.ref b14), .val (.ref b22), .val (.ref b172), .val (.int (0 : Int32))] [])) _
        refine XS.iconst X185.here hx rfl (hb hby at_172) ?_
        show Steps p.tables e below (T185.setTop (mkF m 173 #[.val (.int x0), .val (.int x1), .val (.int (1 : Int32)), .val (.int (0 : Int32)), .val (.ref b1), .val (.ref b7), .val (.ref b14), .val (.ref b22), .val (.ref b172), .val (.int (0 : Int32))] [(.int (1 : Int32))])) _
        refine XS.goto X185.here hx rfl (pc0 := 173) (pc' := 177) rfl (hb hby at_173) (by decide) (by decide) ?_
        show Steps p.tables e below (T185.setTop (mkF m 177 #[.val (.int x0), .val (.int x1), .val (.int (1 : Int32)), .val (.int (0 : Int32)), .val (.ref b1), .val (.ref b7), .val (.ref b14), .val (.ref b22), .val (.ref b172), .val (.int (0 : Int32))] [(.int (1 : Int32))])) _
        exact retOut X185 hx Bd.returns rfl (Or.inl ⟨rfl, Or.inr (Or.inl rfl), _, rfl⟩) (hb hby at_177) hretL
      · show Q_rm0 Z x0 x1 de kde el tel kel em mr h0 n0 _ T185.heap _
        rw [eq185]
        exact ⟨rfl, N187⟩
    · have pre188 : ∀ tgt, Steps p.tables e below (T163.setTop (mkF m 89 #[.val (.int x0), .val (.int x1), .val (.int (1 : Int32)), .val (.int (1 : Int32)), .val (.ref b1), .val (.ref b7), .val (.ref b14), .val (.ref b22), .unset, .unset] [])) tgt → Steps p.tables e below (s₁.setTop (entryFrame m #[(.int x0), (.int x1)] maxLocals)) tgt := by
        have q := pre166
        rw [hqx1] at q
        exact q
      have f189 := (f162.keep kp163)
      have f190 := (gm24.keep kp163 (ninS (Ne.symm neb14_22) nin0))
      have f191 := (gs24.keep kp163 (ninS (Ne.symm neb14_22) nin0))
      have f192 := (ge24.keep kp163 (ninS (Ne.symm neb14_22) nin0))
      have f193 := (f161.keep kp163)
      have f194 := (f160.keep kp163)
      have f195 := (f156.keep kp163)
      obtain ⟨cq196, kq196, q196a, q196b, q196c⟩ := isOf hZ rfl f189
      obtain ⟨_, _, ⟨T196, L196, k196, n196⟩, -, X196, ⟨Lc196, hQ196, l196, y196, z196⟩, st196⟩ := X163.virtualBack hx (y := (⟨"java/util/ArrayList", "add", "(Ljava/lang/Object;)Z"⟩ : MethodName)) (z := (⟨"java/util/ArrayList", "add", "(Ljava/lang/Object;)Z"⟩ : MethodName)) hown (mvT hZ (ow57 hw)) (mvT hZ (ow58 hw)) (notFace_of_selects (args := #[]) (mvT hZ (ow60 hw))) (mvT hZ (ow60 hw)) (mvT hZ (ow59 hw)) (by decide) (backOf (W := 0) (rmad0 l Z a0 hw [] b22 b7 de kde (0 : Int32) "com/example/atropos/atropos/ops/Excess$Rate" T163.heap n0 Ol165 Sde Ade f189 f190 f191 f192 gn22 f193 (ow87 hw)) hZ (ow61 hw) (ow35 hw) (by decide) (by decide)) q196a q196c (g := (mkF m 98 #[.val (.int x0), .val (.int x1), .val (.int (1 : Int32)), .val (.int (1 : Int32)), .val (.ref b1), .val (.ref b7), .val (.ref b14), .val (.ref b22), .unset, .unset] [(.ref b7), (.ref b22)])) rfl (by rw [hml]; rfl) (Steps.refl _) (argsL := [(.ref b7)]) (rest := []) (lenOf pd18 rfl) rfl (by show 2 * 0 + _ ≤ _; exact Nat.le_of_eq rfl) (hb hby at_98) (fun _ _ => ⟨rfl, rfl, (by decide : 5 + 1 ≤ _), (by decide : 22 + 10 ≤ _)⟩)
      dsimp only [Pt.U, Pt.locs, Pt.cells, Pt.slots] at X196 l196 y196 z196 st196 hQ196
      subst l196 y196 z196
      obtain ⟨gb196, gk196, rfl, Nq196, kp196, gg196, gz196, go196, gE196, gm196, gs196, ge196, ga196⟩ := hQ196
      have N197 := Fr.app N164 Nq196
      have Ol198 := Ol165.keep kp196 (allS gn22 all0)
      have gne196_b1 : b1 ≠ gb196 := Nat.ne_of_lt (Nat.lt_of_lt_of_le f194.lt gz196)
      have gne196_b7 : b7 ≠ gb196 := Nat.ne_of_lt (Nat.lt_of_lt_of_le f193.lt gz196)
      have gne196_b14 : b14 ≠ gb196 := Nat.ne_of_lt (Nat.lt_of_lt_of_le f195.lt gz196)
      have gne196_b22 : b22 ≠ gb196 := Nat.ne_of_lt (Nat.lt_of_lt_of_le f189.lt gz196)
      have gne196_gb163 : gb163 ≠ gb196 := Nat.ne_of_lt (Nat.lt_of_lt_of_le gE163.lt gz196)
      have f199 := (f194.keep kp196)
      have f200 := (f193.keep kp196)
      have f201 := (f195.keep kp196)
      have f202 := (f189.keep kp196)
      have f203 := (gE163.keep kp196)
      obtain ⟨T204, h204, X204, e204, E204, A204, D204, U204, st204⟩ := newO X196 hx hZ hown (ow88 hw) (ow89 hw) (ow90 hw) rfl (g := (mkF m 128 #[.val (.int x0), .val (.int x1), .val (.int (1 : Int32)), .val (.int (1 : Int32)), .val (.ref b1), .val (.ref b7), .val (.ref b14), .val (.ref b22), .unset, .unset] [])) rfl (hb hby at_128) (by decide) (by decide)
      obtain ⟨b204, g204⟩ : ∃ z, z = T196.heap.size := ⟨_, rfl⟩
      rw [← g204] at A204 D204 U204 st204
      have gn204 : n0 ≤ b204 := Nat.le_trans (own_sz Ol198) (Nat.le_of_eq g204.symm)
      have neb1_204 : b1 ≠ b204 := Nat.ne_of_lt (Nat.lt_of_lt_of_le f199.lt (Nat.le_of_eq g204.symm))
      have neb7_204 : b7 ≠ b204 := Nat.ne_of_lt (Nat.lt_of_lt_of_le f200.lt (Nat.le_of_eq g204.symm))
      have neb14_204 : b14 ≠ b204 := Nat.ne_of_lt (Nat.lt_of_lt_of_le f201.lt (Nat.le_of_eq g204.symm))
      have neb22_204 : b22 ≠ b204 := Nat.ne_of_lt (Nat.lt_of_lt_of_le f202.lt (Nat.le_of_eq g204.symm))
      have negb163_204 : gb163 ≠ b204 := Nat.ne_of_lt (Nat.lt_of_lt_of_le f203.lt (Nat.le_of_eq g204.symm))
      have negb196_204 : gb196 ≠ b204 := Nat.ne_of_lt (Nat.lt_of_lt_of_le gE196.lt (Nat.le_of_eq g204.symm))
      have Ol205 := Ol198.ext E204
      have FserviceExceeded_204 : Fld Z h204 b204 "com/example/atropos/atropos/analysis/Admission" "serviceExceeded" "Ljava/util/List;" .null := D204 (Or.inr (ow188 hw)) (ty := (.object "java/util/List")) (by decide)
      have FrateExceeded_204 : Fld Z h204 b204 "com/example/atropos/atropos/analysis/Admission" "rateExceeded" "Ljava/util/List;" .null := D204 (Or.inr (ow190 hw)) (ty := (.object "java/util/List")) (by decide)
      have f206 := (f201.ext E204)
      have f207 := ((gs163.keep kp196 (ninS neb14_22 nin0)).ext E204)
      have f208 := ((ge163.keep kp196 (ninS neb14_22 nin0)).ext E204)
      have f209 := ((ga163.keep kp196 (ninS (Ne.symm gne163_b22) nin0)).ext E204)
      have f210 := (f203.ext E204)
      have f211 := (f199.ext E204)
      have f212 := (f202.ext E204)
      have f213 := (gs196.ext E204)
      have f214 := (ge196.ext E204)
      have f215 := (ga196.ext E204)
      have f216 := (gE196.ext E204)
      have f217 := (f200.ext E204)
      obtain ⟨_, _, ⟨T218, L218, k218, n218⟩, -, X218, ⟨Lc218, hQ218, l218, y218, z218⟩, st218⟩ := X204.specialBack hx (y := (⟨"com/example/atropos/atropos/analysis/Admission", "<init>", "(Ljava/util/List;Ljava/util/List;)V"⟩ : MethodName)) rfl hown (mvT hZ (ow91 hw)) (mvT hZ (ow92 hw)) (mvT hZ (ow93 hw)) (by decide) (backOf (W := 1) (rmadm l Z a0 hw [] b204 b14 b22 (0 : Int32) (0 : Int32) el tel kel em mr h204 n0 Ol205 A204 FserviceExceeded_204 FrateExceeded_204 gn204 (Or.inr (Or.inl ⟨b1, _, gb163, _, rfl, f206, f207, f208, f209, f210, f211, (ow205 hw)⟩)) (Or.inr (Or.inl ⟨b7, _, gb196, _, rfl, f212, f213, f214, f215, f216, f217, (ow87 hw)⟩)) Sel Sem hM Eel Fel Ael) hZ (ow93 hw) (ow90 hw) (by decide) (by decide)) (g := (mkF m 136 #[.val (.int x0), .val (.int x1), .val (.int (1 : Int32)), .val (.int (1 : Int32)), .val (.ref b1), .val (.ref b7), .val (.ref b14), .val (.ref b22), .unset, .unset] [(.ref b22), (.ref b14), (.ref b204), (.ref b204)])) rfl (by rw [hml]; rfl) (Steps.refl _) (a := b204) (argsL := [(.ref b14), (.ref b22)]) (rest := [(.ref b204)]) (lenOf pd17 rfl) rfl (by show 2 * 0 + _ ≤ _; exact Nat.le_of_eq rfl) (hb hby at_136) (fun _ _ => ⟨rfl, e204, (by decide : 7 + 6 ≤ _), (by decide : 34 + 16 ≤ _)⟩)
      dsimp only [Pt.U, Pt.locs, Pt.cells, Pt.slots] at X218 l218 y218 z218 st218 hQ218
      subst l218 y218 z218
      obtain ⟨r1218, r2218, rfl, Nq218, kp218, f1218, f2218, e1218, e2218⟩ := hQ218
      have N219 := Fr.app N197 Nq218
      have Ol220 := Ol205.keep kp218 (allS gn204 all0)
      have f222 := (A204.keep kp218)
      obtain ⟨cq221, kq221, q221a, q221b, q221c⟩ := isOf hZ rfl f222
      obtain ⟨_, _, ⟨T221, L221, k221, n221⟩, -, X221, ⟨Lc221, hQ221, l221, y221, z221⟩, st221⟩ := X218.virtualBack hx (y := (⟨"com/example/atropos/atropos/analysis/Admission", "admits", "()Z"⟩ : MethodName)) (z := (⟨"com/example/atropos/atropos/analysis/Admission", "admits", "()Z"⟩ : MethodName)) hown (mvT hZ (ow191 hw)) (mvT hZ (ow192 hw)) (notFace_of_selects (args := #[]) (mvT hZ (ow194 hw))) (mvT hZ (ow194 hw)) (mvT hZ (ow193 hw)) (by decide) (backOf (W := 0) (rmadt l Z a0 hw [] b204 r1218 r2218 (0 : Int32) (0 : Int32) T218.heap n0 Ol220 f1218 f2218 e1218 e2218) hZ (ow195 hw) (ow90 hw) (by decide) (by decide)) q221a q221c (g := (mkF m 164 #[.val (.int x0), .val (.int x1), .val (.int (1 : Int32)), .val (.int (1 : Int32)), .val (.ref b1), .val (.ref b7), .val (.ref b14), .val (.ref b22), .val (.ref b204), .val (.int (0 : Int32))] [(.ref b204)])) rfl (by rw [hml]; rfl) (Steps.refl _) (argsL := []) (rest := []) (lenOf pd12 rfl) rfl (by show 2 * 0 + _ ≤ _; exact Nat.le_of_eq rfl) (hb hby at_164) (fun _ _ => ⟨rfl, rfl, (by decide : 13 + 0 ≤ _), (by decide : 50 + 0 ≤ _)⟩)
      dsimp only [Pt.U, Pt.locs, Pt.cells, Pt.slots] at X221 l221 y221 z221 st221 hQ221
      subst l221 y221 z221
      obtain ⟨rfl, Nq221, eq221⟩ := hQ221
      have N223 := Fr.app N219 Nq221
      obtain ⟨fs, hretL, hrun, hended, hW, hsame⟩ := X221.leave (v := some (.int (1 : Int32))) (fun h => by rw [Bd.returns] at h; cases h)
      refine ⟨_, _, pre188 _ ?_, hrun, hended, _, _, rfl, ?_, ⟨_, rfl⟩, hW, hsame.mono (by decide) (by decide)⟩
      · refine XS.iloadN X163.here hx rfl (hb hby at_89) rfl ?_
        show Steps p.tables e below (T163.setTop (mkF m 90 #[.val (.int x0), .val (.int x1), .val (.int (1 : Int32)), .val (.int (1 : Int32)), .val (.ref b1), .val (.ref b7), .val (.ref b14), .val (.ref b22), .unset, .unset] [(.int (1 : Int32))])) _
        refine XS.iconst X163.here hx rfl (hb hby at_90) ?_
        show Steps p.tables e below (T163.setTop (mkF m 91 #[.val (.int x0), .val (.int x1), .val (.int (1 : Int32)), .val (.int (1 : Int32)), .val (.ref b1), .val (.ref b7), .val (.ref b14), .val (.ref b22), .unset, .unset] [(.int (1 : Int32)), (.int (1 : Int32))])) _
        refine XS.icmpNo X163.here hx rfl (hb hby at_91) rfl (flt (by decide : ¬ ((1 : Int32) < (1 : Int32)))).1 ?_
        show Steps p.tables e below (T163.setTop (mkF m 94 #[.val (.int x0), .val (.int x1), .val (.int (1 : Int32)), .val (.int (1 : Int32)), .val (.ref b1), .val (.ref b7), .val (.ref b14), .val (.ref b22), .unset, .unset] [])) _
        refine XS.aload X163.here hx rfl (hb hby at_94) rfl rfl ?_
        show Steps p.tables e below (T163.setTop (mkF m 96 #[.val (.int x0), .val (.int x1), .val (.int (1 : Int32)), .val (.int (1 : Int32)), .val (.ref b1), .val (.ref b7), .val (.ref b14), .val (.ref b22), .unset, .unset] [(.ref b22)])) _
        refine XS.aload X163.here hx rfl (hb hby at_96) rfl rfl ?_
        show Steps p.tables e below (T163.setTop (mkF m 98 #[.val (.int x0), .val (.int x1), .val (.int (1 : Int32)), .val (.int (1 : Int32)), .val (.ref b1), .val (.ref b7), .val (.ref b14), .val (.ref b22), .unset, .unset] [(.ref b7), (.ref b22)])) _
        refine st196.trans ?_
        show Steps p.tables e below (T196.setTop (mkF m 101 #[.val (.int x0), .val (.int x1), .val (.int (1 : Int32)), .val (.int (1 : Int32)), .val (.ref b1), .val (.ref b7), .val (.ref b14), .val (.ref b22), .unset, .unset] [(.int (1 : Int32))])) _
        refine XS.pop X196.here hx rfl (hb hby at_101) rfl rfl ?_
        show Steps p.tables e below (T196.setTop (mkF m 102 #[.val (.int x0), .val (.int x1), .val (.int (1 : Int32)), .val (.int (1 : Int32)), .val (.ref b1), .val (.ref b7), .val (.ref b14), .val (.ref b22), .unset, .unset] [])) _
        refine XS.iloadN X196.here hx rfl (hb hby at_102) rfl ?_
        show Steps p.tables e below (T196.setTop (mkF m 103 #[.val (.int x0), .val (.int x1), .val (.int (1 : Int32)), .val (.int (1 : Int32)), .val (.ref b1), .val (.ref b7), .val (.ref b14), .val (.ref b22), .unset, .unset] [(.int (1 : Int32))])) _
        refine XS.iconst X196.here hx rfl (hb hby at_103) ?_
        show Steps p.tables e below (T196.setTop (mkF m 104 #[.val (.int x0), .val (.int x1), .val (.int (1 : Int32)), .val (.int (1 : Int32)), .val (.ref b1), .val (.ref b7), .val (.ref b14), .val (.ref b22), .unset, .unset] [(.int (2 : Int32)), (.int (1 : Int32))])) _
        refine XS.icmpYes X196.here hx rfl (pc0 := 104) (pc' := 115) rfl (hb hby at_104) rfl (tlt (by decide : (1 : Int32) < (2 : Int32))).1 (by decide) (by decide) ?_
        show Steps p.tables e below (T196.setTop (mkF m 115 #[.val (.int x0), .val (.int x1), .val (.int (1 : Int32)), .val (.int (1 : Int32)), .val (.ref b1), .val (.ref b7), .val (.ref b14), .val (.ref b22), .unset, .unset] [])) _
        refine XS.iloadN X196.here hx rfl (hb hby at_115) rfl ?_
        show Steps p.tables e below (T196.setTop (mkF m 116 #[.val (.int x0), .val (.int x1), .val (.int (1 : Int32)), .val (.int (1 : Int32)), .val (.ref b1), .val (.ref b7), .val (.ref b14), .val (.ref b22), .unset, .unset] [(.int (1 : Int32))])) _
        refine XS.iconst X196.here hx rfl (hb hby at_116) ?_
        show Steps p.tables e below (T196.setTop (mkF m 117 #[.val (.int x0), .val (.int x1), .val (.int (1 : Int32)), .val (.int (1 : Int32)), .val (.ref b1), .val (.ref b7), .val (.ref b14), .val (.ref b22), .unset, .unset] [(.int (3 : Int32)), (.int (1 : Int32))])) _
        refine XS.icmpYes X196.here hx rfl (pc0 := 117) (pc' := 128) rfl (hb hby at_117) rfl (tlt (by decide : (1 : Int32) < (3 : Int32))).1 (by decide) (by decide) ?_
        show Steps p.tables e below (T196.setTop (mkF m 128 #[.val (.int x0), .val (.int x1), .val (.int (1 : Int32)), .val (.int (1 : Int32)), .val (.ref b1), .val (.ref b7), .val (.ref b14), .val (.ref b22), .unset, .unset] [])) _
        refine st204 _ ?_
        show Steps p.tables e below (T204.setTop (mkF m 131 #[.val (.int x0), .val (.int x1), .val (.int (1 : Int32)), .val (.int (1 : Int32)), .val (.ref b1), .val (.ref b7), .val (.ref b14), .val (.ref b22), .unset, .unset] [(.ref b204)])) _
        refine XS.dup X204.here hx rfl (hb hby at_131) rfl rfl ?_
        show Steps p.tables e below (T204.setTop (mkF m 132 #[.val (.int x0), .val (.int x1), .val (.int (1 : Int32)), .val (.int (1 : Int32)), .val (.ref b1), .val (.ref b7), .val (.ref b14), .val (.ref b22), .unset, .unset] [(.ref b204), (.ref b204)])) _
        refine XS.aload X204.here hx rfl (hb hby at_132) rfl rfl ?_
        show Steps p.tables e below (T204.setTop (mkF m 134 #[.val (.int x0), .val (.int x1), .val (.int (1 : Int32)), .val (.int (1 : Int32)), .val (.ref b1), .val (.ref b7), .val (.ref b14), .val (.ref b22), .unset, .unset] [(.ref b14), (.ref b204), (.ref b204)])) _
        refine XS.aload X204.here hx rfl (hb hby at_134) rfl rfl ?_
        show Steps p.tables e below (T204.setTop (mkF m 136 #[.val (.int x0), .val (.int x1), .val (.int (1 : Int32)), .val (.int (1 : Int32)), .val (.ref b1), .val (.ref b7), .val (.ref b14), .val (.ref b22), .unset, .unset] [(.ref b22), (.ref b14), (.ref b204), (.ref b204)])) _
        refine st218.trans ?_
        show Steps p.tables e below (T218.setTop (mkF m 139 #[.val (.int x0), .val (.int x1), .val (.int (1 : Int32)), .val (.int (1 : Int32)), .val (.ref b1), .val (.ref b7), .val (.ref b14), .val (.ref b22), .unset, .unset] [(.ref b204)])) _
        refine XS.astore X218.here hx rfl (hb hby at_139) rfl rfl (l' := #[.val (.int x0), .val (.int x1), .val (.int (1 : Int32)), .val (.int (1 : Int32)), .val (.ref b1), .val (.ref b7), .val (.ref b14), .val (.ref b22), .val (.ref b204), .unset]) rfl ?_
        show Steps p.tables e below (T218.setTop (mkF m 141 #[.val (.int x0), .val (.int x1), .val (.int (1 : Int32)), .val (.int (1 : Int32)), .val (.ref b1), .val (.ref b7), .val (.ref b14), .val (.ref b22), .val (.ref b204), .unset] [])) _
        refine XS.iloadN X218.here hx rfl (hb hby at_141) rfl ?_
        show Steps p.tables e below (T218.setTop (mkF m 142 #[.val (.int x0), .val (.int x1), .val (.int (1 : Int32)), .val (.int (1 : Int32)), .val (.ref b1), .val (.ref b7), .val (.ref b14), .val (.ref b22), .val (.ref b204), .unset] [(.int (1 : Int32))])) _
        refine XS.ifYes X218.here hx rfl (pc0 := 142) (pc' := 159) rfl (hb hby at_142) rfl ((if0 _ _).trans (feq (by decide : ¬ ((1 : Int32) = (0 : Int32)))).2) (by decide) (by decide) ?_
        show Steps p.tables e below (T218.setTop (mkF m 159 #[.val (.int x0), .val (.int x1), .val (.int (1 : Int32)), .val (.int (1 : Int32)), .val (.ref b1), .val (.ref b7), .val (.ref b14), .val (.ref b22), .val (.ref b204), .unset] [])) _
        refine XS.iconst X218.here hx rfl (hb hby at_159) ?_
        show Steps p.tables e below (T218.setTop (mkF m 160 #[.val (.int x0), .val (.int x1), .val (.int (1 : Int32)), .val (.int (1 : Int32)), .val (.ref b1), .val (.ref b7), .val (.ref b14), .val (.ref b22), .val (.ref b204), .unset] [(.int (0 : Int32))])) _
        refine XS.istore X218.here hx rfl (hb hby at_160) rfl (l' := #[.val (.int x0), .val (.int x1), .val (.int (1 : Int32)), .val (.int (1 : Int32)), .val (.ref b1), .val (.ref b7), .val (.ref b14), .val (.ref b22), .val (.ref b204), .val (.int (0 : Int32))]) rfl ?_
        show Steps p.tables e below (T218.setTop (mkF m 162 #[.val (.int x0), .val (.int x1), .val (.int (1 : Int32)), .val (.int (1 : Int32)), .val (.ref b1), .val (.ref b7), .val (.ref b14), .val (.ref b22), .val (.ref b204), .val (.int (0 : Int32))] [])) _
        refine XS.aload X218.here hx rfl (hb hby at_162) rfl rfl ?_
        show Steps p.tables e below (T218.setTop (mkF m 164 #[.val (.int x0), .val (.int x1), .val (.int (1 : Int32)), .val (.int (1 : Int32)), .val (.ref b1), .val (.ref b7), .val (.ref b14), .val (.ref b22), .val (.ref b204), .val (.int (0 : Int32))] [(.ref b204)])) _
        refine st221.trans ?_
        show Steps p.tables e below (T221.setTop (mkF m 167 #[.val (.int x0), .val (.int x1), .val (.int (1 : Int32)), .val (.int (1 : Int32)), .val (.ref b1), .val (.ref b7), .val (.ref b14), .val (.ref b22), .val (.ref b204), .val (.int (0 : Int32))] [(.int (adm (0 : Int32) (0 : Int32)))])) _
        refine XS.iload X221.here hx rfl (hb hby at_167) rfl ?_
        show Steps p.tables e below (T221.setTop (mkF m 169 #[.val (.int x0), .val (.int x1), .val (.int (1 : Int32)), .val (.int (1 : Int32)), .val (.ref b1), .val (.ref b7), .val (.ref b14), .val (.ref b22), .val (.ref b204), .val (.int (0 : Int32))] [(.int (0 : Int32)), (.int (adm (0 : Int32) (0 : Int32)))])) _
        refine XS.icmpNo X221.here hx rfl (hb hby at_169) rfl (teq (by decide)).2 ?_
        show Steps p.tables e below (T221.setTop (mkF m 172 #[.val (.int x0), .val (.int x1), .val (.int (1 : Int32)), .val (.int (1 : Int32)), .val (.ref b1), .val (.ref b7), .val (.ref b14), .val (.ref b22), .val (.ref b204), .val (.int (0 : Int32))] [])) _
        refine XS.iconst X221.here hx rfl (hb hby at_172) ?_
        show Steps p.tables e below (T221.setTop (mkF m 173 #[.val (.int x0), .val (.int x1), .val (.int (1 : Int32)), .val (.int (1 : Int32)), .val (.ref b1), .val (.ref b7), .val (.ref b14), .val (.ref b22), .val (.ref b204), .val (.int (0 : Int32))] [(.int (1 : Int32))])) _
        refine XS.goto X221.here hx rfl (pc0 := 173) (pc' := 177) rfl (hb hby at_173) (by decide) (by decide) ?_
        show Steps p.tables e below (T221.setTop (mkF m 177 #[.val (.int x0), .val (.int x1), .val (.int (1 : Int32)), .val (.int (1 : Int32)), .val (.ref b1), .val (.ref b7), .val (.ref b14), .val (.ref b22), .val (.ref b204), .val (.int (0 : Int32))] [(.int (1 : Int32))])) _
        exact retOut X221 hx Bd.returns rfl (Or.inl ⟨rfl, Or.inr (Or.inl rfl), _, rfl⟩) (hb hby at_177) hretL
      · show Q_rm0 Z x0 x1 de kde el tel kel em mr h0 n0 _ T221.heap _
        rw [eq221]
        exact ⟨rfl, N223⟩
    · have pre224 : ∀ tgt, Steps p.tables e below (T163.setTop (mkF m 89 #[.val (.int x0), .val (.int x1), .val (.int (1 : Int32)), .val (.int (2 : Int32)), .val (.ref b1), .val (.ref b7), .val (.ref b14), .val (.ref b22), .unset, .unset] [])) tgt → Steps p.tables e below (s₁.setTop (entryFrame m #[(.int x0), (.int x1)] maxLocals)) tgt := by
        have q := pre166
        rw [hqx1] at q
        exact q
      have f225 := (f162.keep kp163)
      have f226 := (gm24.keep kp163 (ninS (Ne.symm neb14_22) nin0))
      have f227 := (gs24.keep kp163 (ninS (Ne.symm neb14_22) nin0))
      have f228 := (ge24.keep kp163 (ninS (Ne.symm neb14_22) nin0))
      have f229 := (f161.keep kp163)
      have f230 := (f160.keep kp163)
      have f231 := (f156.keep kp163)
      obtain ⟨cq232, kq232, q232a, q232b, q232c⟩ := isOf hZ rfl f225
      obtain ⟨_, _, ⟨T232, L232, k232, n232⟩, -, X232, ⟨Lc232, hQ232, l232, y232, z232⟩, st232⟩ := X163.virtualBack hx (y := (⟨"java/util/ArrayList", "add", "(Ljava/lang/Object;)Z"⟩ : MethodName)) (z := (⟨"java/util/ArrayList", "add", "(Ljava/lang/Object;)Z"⟩ : MethodName)) hown (mvT hZ (ow57 hw)) (mvT hZ (ow58 hw)) (notFace_of_selects (args := #[]) (mvT hZ (ow60 hw))) (mvT hZ (ow60 hw)) (mvT hZ (ow59 hw)) (by decide) (backOf (W := 0) (rmad0 l Z a0 hw [] b22 b7 de kde (0 : Int32) "com/example/atropos/atropos/ops/Excess$Rate" T163.heap n0 Ol165 Sde Ade f225 f226 f227 f228 gn22 f229 (ow87 hw)) hZ (ow61 hw) (ow35 hw) (by decide) (by decide)) q232a q232c (g := (mkF m 98 #[.val (.int x0), .val (.int x1), .val (.int (1 : Int32)), .val (.int (2 : Int32)), .val (.ref b1), .val (.ref b7), .val (.ref b14), .val (.ref b22), .unset, .unset] [(.ref b7), (.ref b22)])) rfl (by rw [hml]; rfl) (Steps.refl _) (argsL := [(.ref b7)]) (rest := []) (lenOf pd18 rfl) rfl (by show 2 * 0 + _ ≤ _; exact Nat.le_of_eq rfl) (hb hby at_98) (fun _ _ => ⟨rfl, rfl, (by decide : 5 + 1 ≤ _), (by decide : 22 + 10 ≤ _)⟩)
      dsimp only [Pt.U, Pt.locs, Pt.cells, Pt.slots] at X232 l232 y232 z232 st232 hQ232
      subst l232 y232 z232
      obtain ⟨gb232, gk232, rfl, Nq232, kp232, gg232, gz232, go232, gE232, gm232, gs232, ge232, ga232⟩ := hQ232
      have N233 := Fr.app N164 Nq232
      have Ol234 := Ol165.keep kp232 (allS gn22 all0)
      have gne232_b1 : b1 ≠ gb232 := Nat.ne_of_lt (Nat.lt_of_lt_of_le f230.lt gz232)
      have gne232_b7 : b7 ≠ gb232 := Nat.ne_of_lt (Nat.lt_of_lt_of_le f229.lt gz232)
      have gne232_b14 : b14 ≠ gb232 := Nat.ne_of_lt (Nat.lt_of_lt_of_le f231.lt gz232)
      have gne232_b22 : b22 ≠ gb232 := Nat.ne_of_lt (Nat.lt_of_lt_of_le f225.lt gz232)
      have gne232_gb163 : gb163 ≠ gb232 := Nat.ne_of_lt (Nat.lt_of_lt_of_le gE163.lt gz232)
      have f235 := (f225.keep kp232)
      have f236 := (f229.keep kp232)
      have f237 := (f230.keep kp232)
      have f238 := (f231.keep kp232)
      have f239 := (gE163.keep kp232)
      obtain ⟨cq240, kq240, q240a, q240b, q240c⟩ := isOf hZ rfl f235
      obtain ⟨_, _, ⟨T240, L240, k240, n240⟩, -, X240, ⟨Lc240, hQ240, l240, y240, z240⟩, st240⟩ := X232.virtualBack hx (y := (⟨"java/util/ArrayList", "add", "(Ljava/lang/Object;)Z"⟩ : MethodName)) (z := (⟨"java/util/ArrayList", "add", "(Ljava/lang/Object;)Z"⟩ : MethodName)) hown (mvT hZ (ow57 hw)) (mvT hZ (ow58 hw)) (notFace_of_selects (args := #[]) (mvT hZ (ow60 hw))) (mvT hZ (ow60 hw)) (mvT hZ (ow59 hw)) (by decide) (backOf (W := 0) (rmad1 l Z a0 hw [] b22 b7 ((0 : Int32) + (1 : Int32)) gb232 gk232 "com/example/atropos/atropos/ops/Excess$Rate" T232.heap n0 Ol234 ga232 go232 gg232 gne232_b22 f235 gm232 gs232 ge232 gn22 f236 (ow87 hw)) hZ (ow61 hw) (ow35 hw) (by decide) (by decide)) q240a q240c (g := (mkF m 111 #[.val (.int x0), .val (.int x1), .val (.int (1 : Int32)), .val (.int (2 : Int32)), .val (.ref b1), .val (.ref b7), .val (.ref b14), .val (.ref b22), .unset, .unset] [(.ref b7), (.ref b22)])) rfl (by rw [hml]; rfl) (Steps.refl _) (argsL := [(.ref b7)]) (rest := []) (lenOf pd18 rfl) rfl (by show 2 * 0 + _ ≤ _; exact Nat.le_of_eq rfl) (hb hby at_111) (fun _ _ => ⟨rfl, rfl, (by decide : 6 + 0 ≤ _), (by decide : 32 + 0 ≤ _)⟩)
      dsimp only [Pt.U, Pt.locs, Pt.cells, Pt.slots] at X240 l240 y240 z240 st240 hQ240
      subst l240 y240 z240
      obtain ⟨rfl, Nq240, kp240, gm240, gs240, ge240, ga240⟩ := hQ240
      have N241 := Fr.app N233 Nq240
      have Ol242 := Ol234.keep kp240 (allS gn22 (allS gg232 all0))
      have f243 := (f237.keep kp240)
      have f244 := (f236.keep kp240)
      have f245 := (f238.keep kp240)
      have f246 := (f235.keep kp240)
      have f247 := (f239.keep kp240)
      have f248 := (gE232.keep kp240)
      obtain ⟨T249, h249, X249, e249, E249, A249, D249, U249, st249⟩ := newO X240 hx hZ hown (ow88 hw) (ow89 hw) (ow90 hw) rfl (g := (mkF m 128 #[.val (.int x0), .val (.int x1), .val (.int (1 : Int32)), .val (.int (2 : Int32)), .val (.ref b1), .val (.ref b7), .val (.ref b14), .val (.ref b22), .unset, .unset] [])) rfl (hb hby at_128) (by decide) (by decide)
      obtain ⟨b249, g249⟩ : ∃ z, z = T240.heap.size := ⟨_, rfl⟩
      rw [← g249] at A249 D249 U249 st249
      have gn249 : n0 ≤ b249 := Nat.le_trans (own_sz Ol242) (Nat.le_of_eq g249.symm)
      have neb1_249 : b1 ≠ b249 := Nat.ne_of_lt (Nat.lt_of_lt_of_le f243.lt (Nat.le_of_eq g249.symm))
      have neb7_249 : b7 ≠ b249 := Nat.ne_of_lt (Nat.lt_of_lt_of_le f244.lt (Nat.le_of_eq g249.symm))
      have neb14_249 : b14 ≠ b249 := Nat.ne_of_lt (Nat.lt_of_lt_of_le f245.lt (Nat.le_of_eq g249.symm))
      have neb22_249 : b22 ≠ b249 := Nat.ne_of_lt (Nat.lt_of_lt_of_le f246.lt (Nat.le_of_eq g249.symm))
      have negb163_249 : gb163 ≠ b249 := Nat.ne_of_lt (Nat.lt_of_lt_of_le f247.lt (Nat.le_of_eq g249.symm))
      have negb232_249 : gb232 ≠ b249 := Nat.ne_of_lt (Nat.lt_of_lt_of_le f248.lt (Nat.le_of_eq g249.symm))
      have Ol250 := Ol242.ext E249
      have FserviceExceeded_249 : Fld Z h249 b249 "com/example/atropos/atropos/analysis/Admission" "serviceExceeded" "Ljava/util/List;" .null := D249 (Or.inr (ow188 hw)) (ty := (.object "java/util/List")) (by decide)
      have FrateExceeded_249 : Fld Z h249 b249 "com/example/atropos/atropos/analysis/Admission" "rateExceeded" "Ljava/util/List;" .null := D249 (Or.inr (ow190 hw)) (ty := (.object "java/util/List")) (by decide)
      have f251 := (f245.ext E249)
      have f252 := (((gs163.keep kp232 (ninS neb14_22 nin0)).keep kp240 (ninS neb14_22 (ninS gne232_b14 nin0))).ext E249)
      have f253 := (((ge163.keep kp232 (ninS neb14_22 nin0)).keep kp240 (ninS neb14_22 (ninS gne232_b14 nin0))).ext E249)
      have f254 := (((ga163.keep kp232 (ninS (Ne.symm gne163_b22) nin0)).keep kp240 (ninS (Ne.symm gne163_b22) (ninS gne232_gb163 nin0))).ext E249)
      have f255 := (f247.ext E249)
      have f256 := (f243.ext E249)
      have f257 := (f246.ext E249)
      have f258 := (gs240.ext E249)
      have f259 := (ge240.ext E249)
      have f260 := (ga240.ext E249)
      have f261 := (f248.ext E249)
      have f262 := (f244.ext E249)
      obtain ⟨_, _, ⟨T263, L263, k263, n263⟩, -, X263, ⟨Lc263, hQ263, l263, y263, z263⟩, st263⟩ := X249.specialBack hx (y := (⟨"com/example/atropos/atropos/analysis/Admission", "<init>", "(Ljava/util/List;Ljava/util/List;)V"⟩ : MethodName)) rfl hown (mvT hZ (ow91 hw)) (mvT hZ (ow92 hw)) (mvT hZ (ow93 hw)) (by decide) (backOf (W := 1) (rmadm l Z a0 hw [] b249 b14 b22 (0 : Int32) (0 : Int32) el tel kel em mr h249 n0 Ol250 A249 FserviceExceeded_249 FrateExceeded_249 gn249 (Or.inr (Or.inl ⟨b1, _, gb163, _, rfl, f251, f252, f253, f254, f255, f256, (ow205 hw)⟩)) (Or.inr (Or.inr (Or.inl ⟨b7, _, gb232, _, rfl, f257, f258, f259, f260, f261, f262, (ow87 hw)⟩))) Sel Sem hM Eel Fel Ael) hZ (ow93 hw) (ow90 hw) (by decide) (by decide)) (g := (mkF m 136 #[.val (.int x0), .val (.int x1), .val (.int (1 : Int32)), .val (.int (2 : Int32)), .val (.ref b1), .val (.ref b7), .val (.ref b14), .val (.ref b22), .unset, .unset] [(.ref b22), (.ref b14), (.ref b249), (.ref b249)])) rfl (by rw [hml]; rfl) (Steps.refl _) (a := b249) (argsL := [(.ref b14), (.ref b22)]) (rest := [(.ref b249)]) (lenOf pd17 rfl) rfl (by show 2 * 0 + _ ≤ _; exact Nat.le_of_eq rfl) (hb hby at_136) (fun _ _ => ⟨rfl, e249, (by decide : 7 + 6 ≤ _), (by decide : 34 + 16 ≤ _)⟩)
      dsimp only [Pt.U, Pt.locs, Pt.cells, Pt.slots] at X263 l263 y263 z263 st263 hQ263
      subst l263 y263 z263
      obtain ⟨r1263, r2263, rfl, Nq263, kp263, f1263, f2263, e1263, e2263⟩ := hQ263
      have N264 := Fr.app N241 Nq263
      have Ol265 := Ol250.keep kp263 (allS gn249 all0)
      have f267 := (A249.keep kp263)
      obtain ⟨cq266, kq266, q266a, q266b, q266c⟩ := isOf hZ rfl f267
      obtain ⟨_, _, ⟨T266, L266, k266, n266⟩, -, X266, ⟨Lc266, hQ266, l266, y266, z266⟩, st266⟩ := X263.virtualBack hx (y := (⟨"com/example/atropos/atropos/analysis/Admission", "admits", "()Z"⟩ : MethodName)) (z := (⟨"com/example/atropos/atropos/analysis/Admission", "admits", "()Z"⟩ : MethodName)) hown (mvT hZ (ow191 hw)) (mvT hZ (ow192 hw)) (notFace_of_selects (args := #[]) (mvT hZ (ow194 hw))) (mvT hZ (ow194 hw)) (mvT hZ (ow193 hw)) (by decide) (backOf (W := 0) (rmadt l Z a0 hw [] b249 r1263 r2263 (0 : Int32) (0 : Int32) T263.heap n0 Ol265 f1263 f2263 e1263 e2263) hZ (ow195 hw) (ow90 hw) (by decide) (by decide)) q266a q266c (g := (mkF m 164 #[.val (.int x0), .val (.int x1), .val (.int (1 : Int32)), .val (.int (2 : Int32)), .val (.ref b1), .val (.ref b7), .val (.ref b14), .val (.ref b22), .val (.ref b249), .val (.int (0 : Int32))] [(.ref b249)])) rfl (by rw [hml]; rfl) (Steps.refl _) (argsL := []) (rest := []) (lenOf pd12 rfl) rfl (by show 2 * 0 + _ ≤ _; exact Nat.le_of_eq rfl) (hb hby at_164) (fun _ _ => ⟨rfl, rfl, (by decide : 13 + 0 ≤ _), (by decide : 50 + 0 ≤ _)⟩)
      dsimp only [Pt.U, Pt.locs, Pt.cells, Pt.slots] at X266 l266 y266 z266 st266 hQ266
      subst l266 y266 z266
      obtain ⟨rfl, Nq266, eq266⟩ := hQ266
      have N268 := Fr.app N264 Nq266
      obtain ⟨fs, hretL, hrun, hended, hW, hsame⟩ := X266.leave (v := some (.int (1 : Int32))) (fun h => by rw [Bd.returns] at h; cases h)
      refine ⟨_, _, pre224 _ ?_, hrun, hended, _, _, rfl, ?_, ⟨_, rfl⟩, hW, hsame.mono (by decide) (by decide)⟩
      · refine XS.iloadN X163.here hx rfl (hb hby at_89) rfl ?_
        show Steps p.tables e below (T163.setTop (mkF m 90 #[.val (.int x0), .val (.int x1), .val (.int (1 : Int32)), .val (.int (2 : Int32)), .val (.ref b1), .val (.ref b7), .val (.ref b14), .val (.ref b22), .unset, .unset] [(.int (2 : Int32))])) _
        refine XS.iconst X163.here hx rfl (hb hby at_90) ?_
        show Steps p.tables e below (T163.setTop (mkF m 91 #[.val (.int x0), .val (.int x1), .val (.int (1 : Int32)), .val (.int (2 : Int32)), .val (.ref b1), .val (.ref b7), .val (.ref b14), .val (.ref b22), .unset, .unset] [(.int (1 : Int32)), (.int (2 : Int32))])) _
        refine XS.icmpNo X163.here hx rfl (hb hby at_91) rfl (flt (by decide : ¬ ((2 : Int32) < (1 : Int32)))).1 ?_
        show Steps p.tables e below (T163.setTop (mkF m 94 #[.val (.int x0), .val (.int x1), .val (.int (1 : Int32)), .val (.int (2 : Int32)), .val (.ref b1), .val (.ref b7), .val (.ref b14), .val (.ref b22), .unset, .unset] [])) _
        refine XS.aload X163.here hx rfl (hb hby at_94) rfl rfl ?_
        show Steps p.tables e below (T163.setTop (mkF m 96 #[.val (.int x0), .val (.int x1), .val (.int (1 : Int32)), .val (.int (2 : Int32)), .val (.ref b1), .val (.ref b7), .val (.ref b14), .val (.ref b22), .unset, .unset] [(.ref b22)])) _
        refine XS.aload X163.here hx rfl (hb hby at_96) rfl rfl ?_
        show Steps p.tables e below (T163.setTop (mkF m 98 #[.val (.int x0), .val (.int x1), .val (.int (1 : Int32)), .val (.int (2 : Int32)), .val (.ref b1), .val (.ref b7), .val (.ref b14), .val (.ref b22), .unset, .unset] [(.ref b7), (.ref b22)])) _
        refine st232.trans ?_
        show Steps p.tables e below (T232.setTop (mkF m 101 #[.val (.int x0), .val (.int x1), .val (.int (1 : Int32)), .val (.int (2 : Int32)), .val (.ref b1), .val (.ref b7), .val (.ref b14), .val (.ref b22), .unset, .unset] [(.int (1 : Int32))])) _
        refine XS.pop X232.here hx rfl (hb hby at_101) rfl rfl ?_
        show Steps p.tables e below (T232.setTop (mkF m 102 #[.val (.int x0), .val (.int x1), .val (.int (1 : Int32)), .val (.int (2 : Int32)), .val (.ref b1), .val (.ref b7), .val (.ref b14), .val (.ref b22), .unset, .unset] [])) _
        refine XS.iloadN X232.here hx rfl (hb hby at_102) rfl ?_
        show Steps p.tables e below (T232.setTop (mkF m 103 #[.val (.int x0), .val (.int x1), .val (.int (1 : Int32)), .val (.int (2 : Int32)), .val (.ref b1), .val (.ref b7), .val (.ref b14), .val (.ref b22), .unset, .unset] [(.int (2 : Int32))])) _
        refine XS.iconst X232.here hx rfl (hb hby at_103) ?_
        show Steps p.tables e below (T232.setTop (mkF m 104 #[.val (.int x0), .val (.int x1), .val (.int (1 : Int32)), .val (.int (2 : Int32)), .val (.ref b1), .val (.ref b7), .val (.ref b14), .val (.ref b22), .unset, .unset] [(.int (2 : Int32)), (.int (2 : Int32))])) _
        refine XS.icmpNo X232.here hx rfl (hb hby at_104) rfl (flt (by decide : ¬ ((2 : Int32) < (2 : Int32)))).1 ?_
        show Steps p.tables e below (T232.setTop (mkF m 107 #[.val (.int x0), .val (.int x1), .val (.int (1 : Int32)), .val (.int (2 : Int32)), .val (.ref b1), .val (.ref b7), .val (.ref b14), .val (.ref b22), .unset, .unset] [])) _
        refine XS.aload X232.here hx rfl (hb hby at_107) rfl rfl ?_
        show Steps p.tables e below (T232.setTop (mkF m 109 #[.val (.int x0), .val (.int x1), .val (.int (1 : Int32)), .val (.int (2 : Int32)), .val (.ref b1), .val (.ref b7), .val (.ref b14), .val (.ref b22), .unset, .unset] [(.ref b22)])) _
        refine XS.aload X232.here hx rfl (hb hby at_109) rfl rfl ?_
        show Steps p.tables e below (T232.setTop (mkF m 111 #[.val (.int x0), .val (.int x1), .val (.int (1 : Int32)), .val (.int (2 : Int32)), .val (.ref b1), .val (.ref b7), .val (.ref b14), .val (.ref b22), .unset, .unset] [(.ref b7), (.ref b22)])) _
        refine st240.trans ?_
        show Steps p.tables e below (T240.setTop (mkF m 114 #[.val (.int x0), .val (.int x1), .val (.int (1 : Int32)), .val (.int (2 : Int32)), .val (.ref b1), .val (.ref b7), .val (.ref b14), .val (.ref b22), .unset, .unset] [(.int (1 : Int32))])) _
        refine XS.pop X240.here hx rfl (hb hby at_114) rfl rfl ?_
        show Steps p.tables e below (T240.setTop (mkF m 115 #[.val (.int x0), .val (.int x1), .val (.int (1 : Int32)), .val (.int (2 : Int32)), .val (.ref b1), .val (.ref b7), .val (.ref b14), .val (.ref b22), .unset, .unset] [])) _
        refine XS.iloadN X240.here hx rfl (hb hby at_115) rfl ?_
        show Steps p.tables e below (T240.setTop (mkF m 116 #[.val (.int x0), .val (.int x1), .val (.int (1 : Int32)), .val (.int (2 : Int32)), .val (.ref b1), .val (.ref b7), .val (.ref b14), .val (.ref b22), .unset, .unset] [(.int (2 : Int32))])) _
        refine XS.iconst X240.here hx rfl (hb hby at_116) ?_
        show Steps p.tables e below (T240.setTop (mkF m 117 #[.val (.int x0), .val (.int x1), .val (.int (1 : Int32)), .val (.int (2 : Int32)), .val (.ref b1), .val (.ref b7), .val (.ref b14), .val (.ref b22), .unset, .unset] [(.int (3 : Int32)), (.int (2 : Int32))])) _
        refine XS.icmpYes X240.here hx rfl (pc0 := 117) (pc' := 128) rfl (hb hby at_117) rfl (tlt (by decide : (2 : Int32) < (3 : Int32))).1 (by decide) (by decide) ?_
        show Steps p.tables e below (T240.setTop (mkF m 128 #[.val (.int x0), .val (.int x1), .val (.int (1 : Int32)), .val (.int (2 : Int32)), .val (.ref b1), .val (.ref b7), .val (.ref b14), .val (.ref b22), .unset, .unset] [])) _
        refine st249 _ ?_
        show Steps p.tables e below (T249.setTop (mkF m 131 #[.val (.int x0), .val (.int x1), .val (.int (1 : Int32)), .val (.int (2 : Int32)), .val (.ref b1), .val (.ref b7), .val (.ref b14), .val (.ref b22), .unset, .unset] [(.ref b249)])) _
        refine XS.dup X249.here hx rfl (hb hby at_131) rfl rfl ?_
        show Steps p.tables e below (T249.setTop (mkF m 132 #[.val (.int x0), .val (.int x1), .val (.int (1 : Int32)), .val (.int (2 : Int32)), .val (.ref b1), .val (.ref b7), .val (.ref b14), .val (.ref b22), .unset, .unset] [(.ref b249), (.ref b249)])) _
        refine XS.aload X249.here hx rfl (hb hby at_132) rfl rfl ?_
        show Steps p.tables e below (T249.setTop (mkF m 134 #[.val (.int x0), .val (.int x1), .val (.int (1 : Int32)), .val (.int (2 : Int32)), .val (.ref b1), .val (.ref b7), .val (.ref b14), .val (.ref b22), .unset, .unset] [(.ref b14), (.ref b249), (.ref b249)])) _
        refine XS.aload X249.here hx rfl (hb hby at_134) rfl rfl ?_
        show Steps p.tables e below (T249.setTop (mkF m 136 #[.val (.int x0), .val (.int x1), .val (.int (1 : Int32)), .val (.int (2 : Int32)), .val (.ref b1), .val (.ref b7), .val (.ref b14), .val (.ref b22), .unset, .unset] [(.ref b22), (.ref b14), (.ref b249), (.ref b249)])) _
        refine st263.trans ?_
        show Steps p.tables e below (T263.setTop (mkF m 139 #[.val (.int x0), .val (.int x1), .val (.int (1 : Int32)), .val (.int (2 : Int32)), .val (.ref b1), .val (.ref b7), .val (.ref b14), .val (.ref b22), .unset, .unset] [(.ref b249)])) _
        refine XS.astore X263.here hx rfl (hb hby at_139) rfl rfl (l' := #[.val (.int x0), .val (.int x1), .val (.int (1 : Int32)), .val (.int (2 : Int32)), .val (.ref b1), .val (.ref b7), .val (.ref b14), .val (.ref b22), .val (.ref b249), .unset]) rfl ?_
        show Steps p.tables e below (T263.setTop (mkF m 141 #[.val (.int x0), .val (.int x1), .val (.int (1 : Int32)), .val (.int (2 : Int32)), .val (.ref b1), .val (.ref b7), .val (.ref b14), .val (.ref b22), .val (.ref b249), .unset] [])) _
        refine XS.iloadN X263.here hx rfl (hb hby at_141) rfl ?_
        show Steps p.tables e below (T263.setTop (mkF m 142 #[.val (.int x0), .val (.int x1), .val (.int (1 : Int32)), .val (.int (2 : Int32)), .val (.ref b1), .val (.ref b7), .val (.ref b14), .val (.ref b22), .val (.ref b249), .unset] [(.int (1 : Int32))])) _
        refine XS.ifYes X263.here hx rfl (pc0 := 142) (pc' := 159) rfl (hb hby at_142) rfl ((if0 _ _).trans (feq (by decide : ¬ ((1 : Int32) = (0 : Int32)))).2) (by decide) (by decide) ?_
        show Steps p.tables e below (T263.setTop (mkF m 159 #[.val (.int x0), .val (.int x1), .val (.int (1 : Int32)), .val (.int (2 : Int32)), .val (.ref b1), .val (.ref b7), .val (.ref b14), .val (.ref b22), .val (.ref b249), .unset] [])) _
        refine XS.iconst X263.here hx rfl (hb hby at_159) ?_
        show Steps p.tables e below (T263.setTop (mkF m 160 #[.val (.int x0), .val (.int x1), .val (.int (1 : Int32)), .val (.int (2 : Int32)), .val (.ref b1), .val (.ref b7), .val (.ref b14), .val (.ref b22), .val (.ref b249), .unset] [(.int (0 : Int32))])) _
        refine XS.istore X263.here hx rfl (hb hby at_160) rfl (l' := #[.val (.int x0), .val (.int x1), .val (.int (1 : Int32)), .val (.int (2 : Int32)), .val (.ref b1), .val (.ref b7), .val (.ref b14), .val (.ref b22), .val (.ref b249), .val (.int (0 : Int32))]) rfl ?_
        show Steps p.tables e below (T263.setTop (mkF m 162 #[.val (.int x0), .val (.int x1), .val (.int (1 : Int32)), .val (.int (2 : Int32)), .val (.ref b1), .val (.ref b7), .val (.ref b14), .val (.ref b22), .val (.ref b249), .val (.int (0 : Int32))] [])) _
        refine XS.aload X263.here hx rfl (hb hby at_162) rfl rfl ?_
        show Steps p.tables e below (T263.setTop (mkF m 164 #[.val (.int x0), .val (.int x1), .val (.int (1 : Int32)), .val (.int (2 : Int32)), .val (.ref b1), .val (.ref b7), .val (.ref b14), .val (.ref b22), .val (.ref b249), .val (.int (0 : Int32))] [(.ref b249)])) _
        refine st266.trans ?_
        show Steps p.tables e below (T266.setTop (mkF m 167 #[.val (.int x0), .val (.int x1), .val (.int (1 : Int32)), .val (.int (2 : Int32)), .val (.ref b1), .val (.ref b7), .val (.ref b14), .val (.ref b22), .val (.ref b249), .val (.int (0 : Int32))] [(.int (adm (0 : Int32) (0 : Int32)))])) _
        refine XS.iload X266.here hx rfl (hb hby at_167) rfl ?_
        show Steps p.tables e below (T266.setTop (mkF m 169 #[.val (.int x0), .val (.int x1), .val (.int (1 : Int32)), .val (.int (2 : Int32)), .val (.ref b1), .val (.ref b7), .val (.ref b14), .val (.ref b22), .val (.ref b249), .val (.int (0 : Int32))] [(.int (0 : Int32)), (.int (adm (0 : Int32) (0 : Int32)))])) _
        refine XS.icmpNo X266.here hx rfl (hb hby at_169) rfl (teq (by decide)).2 ?_
        show Steps p.tables e below (T266.setTop (mkF m 172 #[.val (.int x0), .val (.int x1), .val (.int (1 : Int32)), .val (.int (2 : Int32)), .val (.ref b1), .val (.ref b7), .val (.ref b14), .val (.ref b22), .val (.ref b249), .val (.int (0 : Int32))] [])) _
        refine XS.iconst X266.here hx rfl (hb hby at_172) ?_
        show Steps p.tables e below (T266.setTop (mkF m 173 #[.val (.int x0), .val (.int x1), .val (.int (1 : Int32)), .val (.int (2 : Int32)), .val (.ref b1), .val (.ref b7), .val (.ref b14), .val (.ref b22), .val (.ref b249), .val (.int (0 : Int32))] [(.int (1 : Int32))])) _
        refine XS.goto X266.here hx rfl (pc0 := 173) (pc' := 177) rfl (hb hby at_173) (by decide) (by decide) ?_
        show Steps p.tables e below (T266.setTop (mkF m 177 #[.val (.int x0), .val (.int x1), .val (.int (1 : Int32)), .val (.int (2 : Int32)), .val (.ref b1), .val (.ref b7), .val (.ref b14), .val (.ref b22), .val (.ref b249), .val (.int (0 : Int32))] [(.int (1 : Int32))])) _
        exact retOut X266 hx Bd.returns rfl (Or.inl ⟨rfl, Or.inr (Or.inl rfl), _, rfl⟩) (hb hby at_177) hretL
      · show Q_rm0 Z x0 x1 de kde el tel kel em mr h0 n0 _ T266.heap _
        rw [eq266]
        exact ⟨rfl, N268⟩
    · have pre269 : ∀ tgt, Steps p.tables e below (T163.setTop (mkF m 89 #[.val (.int x0), .val (.int x1), .val (.int (1 : Int32)), .val (.int (3 : Int32)), .val (.ref b1), .val (.ref b7), .val (.ref b14), .val (.ref b22), .unset, .unset] [])) tgt → Steps p.tables e below (s₁.setTop (entryFrame m #[(.int x0), (.int x1)] maxLocals)) tgt := by
        have q := pre166
        rw [hqx1] at q
        exact q
      have f270 := (f162.keep kp163)
      have f271 := (gm24.keep kp163 (ninS (Ne.symm neb14_22) nin0))
      have f272 := (gs24.keep kp163 (ninS (Ne.symm neb14_22) nin0))
      have f273 := (ge24.keep kp163 (ninS (Ne.symm neb14_22) nin0))
      have f274 := (f161.keep kp163)
      have f275 := (f160.keep kp163)
      have f276 := (f156.keep kp163)
      obtain ⟨cq277, kq277, q277a, q277b, q277c⟩ := isOf hZ rfl f270
      obtain ⟨_, _, ⟨T277, L277, k277, n277⟩, -, X277, ⟨Lc277, hQ277, l277, y277, z277⟩, st277⟩ := X163.virtualBack hx (y := (⟨"java/util/ArrayList", "add", "(Ljava/lang/Object;)Z"⟩ : MethodName)) (z := (⟨"java/util/ArrayList", "add", "(Ljava/lang/Object;)Z"⟩ : MethodName)) hown (mvT hZ (ow57 hw)) (mvT hZ (ow58 hw)) (notFace_of_selects (args := #[]) (mvT hZ (ow60 hw))) (mvT hZ (ow60 hw)) (mvT hZ (ow59 hw)) (by decide) (backOf (W := 0) (rmad0 l Z a0 hw [] b22 b7 de kde (0 : Int32) "com/example/atropos/atropos/ops/Excess$Rate" T163.heap n0 Ol165 Sde Ade f270 f271 f272 f273 gn22 f274 (ow87 hw)) hZ (ow61 hw) (ow35 hw) (by decide) (by decide)) q277a q277c (g := (mkF m 98 #[.val (.int x0), .val (.int x1), .val (.int (1 : Int32)), .val (.int (3 : Int32)), .val (.ref b1), .val (.ref b7), .val (.ref b14), .val (.ref b22), .unset, .unset] [(.ref b7), (.ref b22)])) rfl (by rw [hml]; rfl) (Steps.refl _) (argsL := [(.ref b7)]) (rest := []) (lenOf pd18 rfl) rfl (by show 2 * 0 + _ ≤ _; exact Nat.le_of_eq rfl) (hb hby at_98) (fun _ _ => ⟨rfl, rfl, (by decide : 5 + 1 ≤ _), (by decide : 22 + 10 ≤ _)⟩)
      dsimp only [Pt.U, Pt.locs, Pt.cells, Pt.slots] at X277 l277 y277 z277 st277 hQ277
      subst l277 y277 z277
      obtain ⟨gb277, gk277, rfl, Nq277, kp277, gg277, gz277, go277, gE277, gm277, gs277, ge277, ga277⟩ := hQ277
      have N278 := Fr.app N164 Nq277
      have Ol279 := Ol165.keep kp277 (allS gn22 all0)
      have gne277_b1 : b1 ≠ gb277 := Nat.ne_of_lt (Nat.lt_of_lt_of_le f275.lt gz277)
      have gne277_b7 : b7 ≠ gb277 := Nat.ne_of_lt (Nat.lt_of_lt_of_le f274.lt gz277)
      have gne277_b14 : b14 ≠ gb277 := Nat.ne_of_lt (Nat.lt_of_lt_of_le f276.lt gz277)
      have gne277_b22 : b22 ≠ gb277 := Nat.ne_of_lt (Nat.lt_of_lt_of_le f270.lt gz277)
      have gne277_gb163 : gb163 ≠ gb277 := Nat.ne_of_lt (Nat.lt_of_lt_of_le gE163.lt gz277)
      have f280 := (f270.keep kp277)
      have f281 := (f274.keep kp277)
      have f282 := (f275.keep kp277)
      have f283 := (f276.keep kp277)
      have f284 := (gE163.keep kp277)
      obtain ⟨cq285, kq285, q285a, q285b, q285c⟩ := isOf hZ rfl f280
      obtain ⟨_, _, ⟨T285, L285, k285, n285⟩, -, X285, ⟨Lc285, hQ285, l285, y285, z285⟩, st285⟩ := X277.virtualBack hx (y := (⟨"java/util/ArrayList", "add", "(Ljava/lang/Object;)Z"⟩ : MethodName)) (z := (⟨"java/util/ArrayList", "add", "(Ljava/lang/Object;)Z"⟩ : MethodName)) hown (mvT hZ (ow57 hw)) (mvT hZ (ow58 hw)) (notFace_of_selects (args := #[]) (mvT hZ (ow60 hw))) (mvT hZ (ow60 hw)) (mvT hZ (ow59 hw)) (by decide) (backOf (W := 0) (rmad1 l Z a0 hw [] b22 b7 ((0 : Int32) + (1 : Int32)) gb277 gk277 "com/example/atropos/atropos/ops/Excess$Rate" T277.heap n0 Ol279 ga277 go277 gg277 gne277_b22 f280 gm277 gs277 ge277 gn22 f281 (ow87 hw)) hZ (ow61 hw) (ow35 hw) (by decide) (by decide)) q285a q285c (g := (mkF m 111 #[.val (.int x0), .val (.int x1), .val (.int (1 : Int32)), .val (.int (3 : Int32)), .val (.ref b1), .val (.ref b7), .val (.ref b14), .val (.ref b22), .unset, .unset] [(.ref b7), (.ref b22)])) rfl (by rw [hml]; rfl) (Steps.refl _) (argsL := [(.ref b7)]) (rest := []) (lenOf pd18 rfl) rfl (by show 2 * 0 + _ ≤ _; exact Nat.le_of_eq rfl) (hb hby at_111) (fun _ _ => ⟨rfl, rfl, (by decide : 6 + 0 ≤ _), (by decide : 32 + 0 ≤ _)⟩)
      dsimp only [Pt.U, Pt.locs, Pt.cells, Pt.slots] at X285 l285 y285 z285 st285 hQ285
      subst l285 y285 z285
      obtain ⟨rfl, Nq285, kp285, gm285, gs285, ge285, ga285⟩ := hQ285
      have N286 := Fr.app N278 Nq285
      have Ol287 := Ol279.keep kp285 (allS gn22 (allS gg277 all0))
      have f288 := (f280.keep kp285)
      have f289 := (f281.keep kp285)
      have f290 := (f282.keep kp285)
      have f291 := (f283.keep kp285)
      have f292 := (f284.keep kp285)
      have f293 := (gE277.keep kp285)
      obtain ⟨cq294, kq294, q294a, q294b, q294c⟩ := isOf hZ rfl f288
      obtain ⟨_, _, ⟨T294, L294, k294, n294⟩, -, X294, ⟨Lc294, hQ294, l294, y294, z294⟩, st294⟩ := X285.virtualBack hx (y := (⟨"java/util/ArrayList", "add", "(Ljava/lang/Object;)Z"⟩ : MethodName)) (z := (⟨"java/util/ArrayList", "add", "(Ljava/lang/Object;)Z"⟩ : MethodName)) hown (mvT hZ (ow57 hw)) (mvT hZ (ow58 hw)) (notFace_of_selects (args := #[]) (mvT hZ (ow60 hw))) (mvT hZ (ow60 hw)) (mvT hZ (ow59 hw)) (by decide) (backOf (W := 0) (rmad2 l Z a0 hw [] b22 b7 (((0 : Int32) + (1 : Int32)) + (1 : Int32)) gb277 gk277 "com/example/atropos/atropos/ops/Excess$Rate" T285.heap n0 Ol287 ga285 go277 gg277 gne277_b22 f288 gm285 gs285 ge285 gn22 f289 (ow87 hw)) hZ (ow61 hw) (ow35 hw) (by decide) (by decide)) q294a q294c (g := (mkF m 124 #[.val (.int x0), .val (.int x1), .val (.int (1 : Int32)), .val (.int (3 : Int32)), .val (.ref b1), .val (.ref b7), .val (.ref b14), .val (.ref b22), .unset, .unset] [(.ref b7), (.ref b22)])) rfl (by rw [hml]; rfl) (Steps.refl _) (argsL := [(.ref b7)]) (rest := []) (lenOf pd18 rfl) rfl (by show 2 * 0 + _ ≤ _; exact Nat.le_of_eq rfl) (hb hby at_124) (fun _ _ => ⟨rfl, rfl, (by decide : 6 + 0 ≤ _), (by decide : 32 + 0 ≤ _)⟩)
      dsimp only [Pt.U, Pt.locs, Pt.cells, Pt.slots] at X294 l294 y294 z294 st294 hQ294
      subst l294 y294 z294
      obtain ⟨rfl, Nq294, kp294, gm294, gs294, ge294, ga294⟩ := hQ294
      have N295 := Fr.app N286 Nq294
      have Ol296 := Ol287.keep kp294 (allS gn22 (allS gg277 all0))
      have f297 := (f290.keep kp294)
      have f298 := (f289.keep kp294)
      have f299 := (f291.keep kp294)
      have f300 := (f288.keep kp294)
      have f301 := (f292.keep kp294)
      have f302 := (f293.keep kp294)
      obtain ⟨T303, h303, X303, e303, E303, A303, D303, U303, st303⟩ := newO X294 hx hZ hown (ow88 hw) (ow89 hw) (ow90 hw) rfl (g := (mkF m 128 #[.val (.int x0), .val (.int x1), .val (.int (1 : Int32)), .val (.int (3 : Int32)), .val (.ref b1), .val (.ref b7), .val (.ref b14), .val (.ref b22), .unset, .unset] [])) rfl (hb hby at_128) (by decide) (by decide)
      obtain ⟨b303, g303⟩ : ∃ z, z = T294.heap.size := ⟨_, rfl⟩
      rw [← g303] at A303 D303 U303 st303
      have gn303 : n0 ≤ b303 := Nat.le_trans (own_sz Ol296) (Nat.le_of_eq g303.symm)
      have neb1_303 : b1 ≠ b303 := Nat.ne_of_lt (Nat.lt_of_lt_of_le f297.lt (Nat.le_of_eq g303.symm))
      have neb7_303 : b7 ≠ b303 := Nat.ne_of_lt (Nat.lt_of_lt_of_le f298.lt (Nat.le_of_eq g303.symm))
      have neb14_303 : b14 ≠ b303 := Nat.ne_of_lt (Nat.lt_of_lt_of_le f299.lt (Nat.le_of_eq g303.symm))
      have neb22_303 : b22 ≠ b303 := Nat.ne_of_lt (Nat.lt_of_lt_of_le f300.lt (Nat.le_of_eq g303.symm))
      have negb163_303 : gb163 ≠ b303 := Nat.ne_of_lt (Nat.lt_of_lt_of_le f301.lt (Nat.le_of_eq g303.symm))
      have negb277_303 : gb277 ≠ b303 := Nat.ne_of_lt (Nat.lt_of_lt_of_le f302.lt (Nat.le_of_eq g303.symm))
      have Ol304 := Ol296.ext E303
      have FserviceExceeded_303 : Fld Z h303 b303 "com/example/atropos/atropos/analysis/Admission" "serviceExceeded" "Ljava/util/List;" .null := D303 (Or.inr (ow188 hw)) (ty := (.object "java/util/List")) (by decide)
      have FrateExceeded_303 : Fld Z h303 b303 "com/example/atropos/atropos/analysis/Admission" "rateExceeded" "Ljava/util/List;" .null := D303 (Or.inr (ow190 hw)) (ty := (.object "java/util/List")) (by decide)
      have f305 := (f299.ext E303)
      have f306 := ((((gs163.keep kp277 (ninS neb14_22 nin0)).keep kp285 (ninS neb14_22 (ninS gne277_b14 nin0))).keep kp294 (ninS neb14_22 (ninS gne277_b14 nin0))).ext E303)
      have f307 := ((((ge163.keep kp277 (ninS neb14_22 nin0)).keep kp285 (ninS neb14_22 (ninS gne277_b14 nin0))).keep kp294 (ninS neb14_22 (ninS gne277_b14 nin0))).ext E303)
      have f308 := ((((ga163.keep kp277 (ninS (Ne.symm gne163_b22) nin0)).keep kp285 (ninS (Ne.symm gne163_b22) (ninS gne277_gb163 nin0))).keep kp294 (ninS (Ne.symm gne163_b22) (ninS gne277_gb163 nin0))).ext E303)
      have f309 := (f301.ext E303)
      have f310 := (f297.ext E303)
      have f311 := (f300.ext E303)
      have f312 := (gs294.ext E303)
      have f313 := (ge294.ext E303)
      have f314 := (ga294.ext E303)
      have f315 := (f302.ext E303)
      have f316 := (f298.ext E303)
      obtain ⟨_, _, ⟨T317, L317, k317, n317⟩, -, X317, ⟨Lc317, hQ317, l317, y317, z317⟩, st317⟩ := X303.specialBack hx (y := (⟨"com/example/atropos/atropos/analysis/Admission", "<init>", "(Ljava/util/List;Ljava/util/List;)V"⟩ : MethodName)) rfl hown (mvT hZ (ow91 hw)) (mvT hZ (ow92 hw)) (mvT hZ (ow93 hw)) (by decide) (backOf (W := 1) (rmadm l Z a0 hw [] b303 b14 b22 (0 : Int32) (0 : Int32) el tel kel em mr h303 n0 Ol304 A303 FserviceExceeded_303 FrateExceeded_303 gn303 (Or.inr (Or.inl ⟨b1, _, gb163, _, rfl, f305, f306, f307, f308, f309, f310, (ow205 hw)⟩)) (Or.inr (Or.inr (Or.inr ⟨b7, _, gb277, _, rfl, f311, f312, f313, f314, f315, f316, (ow87 hw)⟩))) Sel Sem hM Eel Fel Ael) hZ (ow93 hw) (ow90 hw) (by decide) (by decide)) (g := (mkF m 136 #[.val (.int x0), .val (.int x1), .val (.int (1 : Int32)), .val (.int (3 : Int32)), .val (.ref b1), .val (.ref b7), .val (.ref b14), .val (.ref b22), .unset, .unset] [(.ref b22), (.ref b14), (.ref b303), (.ref b303)])) rfl (by rw [hml]; rfl) (Steps.refl _) (a := b303) (argsL := [(.ref b14), (.ref b22)]) (rest := [(.ref b303)]) (lenOf pd17 rfl) rfl (by show 2 * 0 + _ ≤ _; exact Nat.le_of_eq rfl) (hb hby at_136) (fun _ _ => ⟨rfl, e303, (by decide : 7 + 6 ≤ _), (by decide : 34 + 16 ≤ _)⟩)
      dsimp only [Pt.U, Pt.locs, Pt.cells, Pt.slots] at X317 l317 y317 z317 st317 hQ317
      subst l317 y317 z317
      obtain ⟨r1317, r2317, rfl, Nq317, kp317, f1317, f2317, e1317, e2317⟩ := hQ317
      have N318 := Fr.app N295 Nq317
      have Ol319 := Ol304.keep kp317 (allS gn303 all0)
      have f321 := (A303.keep kp317)
      obtain ⟨cq320, kq320, q320a, q320b, q320c⟩ := isOf hZ rfl f321
      obtain ⟨_, _, ⟨T320, L320, k320, n320⟩, -, X320, ⟨Lc320, hQ320, l320, y320, z320⟩, st320⟩ := X317.virtualBack hx (y := (⟨"com/example/atropos/atropos/analysis/Admission", "admits", "()Z"⟩ : MethodName)) (z := (⟨"com/example/atropos/atropos/analysis/Admission", "admits", "()Z"⟩ : MethodName)) hown (mvT hZ (ow191 hw)) (mvT hZ (ow192 hw)) (notFace_of_selects (args := #[]) (mvT hZ (ow194 hw))) (mvT hZ (ow194 hw)) (mvT hZ (ow193 hw)) (by decide) (backOf (W := 0) (rmadt l Z a0 hw [] b303 r1317 r2317 (0 : Int32) (0 : Int32) T317.heap n0 Ol319 f1317 f2317 e1317 e2317) hZ (ow195 hw) (ow90 hw) (by decide) (by decide)) q320a q320c (g := (mkF m 164 #[.val (.int x0), .val (.int x1), .val (.int (1 : Int32)), .val (.int (3 : Int32)), .val (.ref b1), .val (.ref b7), .val (.ref b14), .val (.ref b22), .val (.ref b303), .val (.int (0 : Int32))] [(.ref b303)])) rfl (by rw [hml]; rfl) (Steps.refl _) (argsL := []) (rest := []) (lenOf pd12 rfl) rfl (by show 2 * 0 + _ ≤ _; exact Nat.le_of_eq rfl) (hb hby at_164) (fun _ _ => ⟨rfl, rfl, (by decide : 13 + 0 ≤ _), (by decide : 50 + 0 ≤ _)⟩)
      dsimp only [Pt.U, Pt.locs, Pt.cells, Pt.slots] at X320 l320 y320 z320 st320 hQ320
      subst l320 y320 z320
      obtain ⟨rfl, Nq320, eq320⟩ := hQ320
      have N322 := Fr.app N318 Nq320
      obtain ⟨fs, hretL, hrun, hended, hW, hsame⟩ := X320.leave (v := some (.int (1 : Int32))) (fun h => by rw [Bd.returns] at h; cases h)
      refine ⟨_, _, pre269 _ ?_, hrun, hended, _, _, rfl, ?_, ⟨_, rfl⟩, hW, hsame.mono (by decide) (by decide)⟩
      · refine XS.iloadN X163.here hx rfl (hb hby at_89) rfl ?_
        show Steps p.tables e below (T163.setTop (mkF m 90 #[.val (.int x0), .val (.int x1), .val (.int (1 : Int32)), .val (.int (3 : Int32)), .val (.ref b1), .val (.ref b7), .val (.ref b14), .val (.ref b22), .unset, .unset] [(.int (3 : Int32))])) _
        refine XS.iconst X163.here hx rfl (hb hby at_90) ?_
        show Steps p.tables e below (T163.setTop (mkF m 91 #[.val (.int x0), .val (.int x1), .val (.int (1 : Int32)), .val (.int (3 : Int32)), .val (.ref b1), .val (.ref b7), .val (.ref b14), .val (.ref b22), .unset, .unset] [(.int (1 : Int32)), (.int (3 : Int32))])) _
        refine XS.icmpNo X163.here hx rfl (hb hby at_91) rfl (flt (by decide : ¬ ((3 : Int32) < (1 : Int32)))).1 ?_
        show Steps p.tables e below (T163.setTop (mkF m 94 #[.val (.int x0), .val (.int x1), .val (.int (1 : Int32)), .val (.int (3 : Int32)), .val (.ref b1), .val (.ref b7), .val (.ref b14), .val (.ref b22), .unset, .unset] [])) _
        refine XS.aload X163.here hx rfl (hb hby at_94) rfl rfl ?_
        show Steps p.tables e below (T163.setTop (mkF m 96 #[.val (.int x0), .val (.int x1), .val (.int (1 : Int32)), .val (.int (3 : Int32)), .val (.ref b1), .val (.ref b7), .val (.ref b14), .val (.ref b22), .unset, .unset] [(.ref b22)])) _
        refine XS.aload X163.here hx rfl (hb hby at_96) rfl rfl ?_
        show Steps p.tables e below (T163.setTop (mkF m 98 #[.val (.int x0), .val (.int x1), .val (.int (1 : Int32)), .val (.int (3 : Int32)), .val (.ref b1), .val (.ref b7), .val (.ref b14), .val (.ref b22), .unset, .unset] [(.ref b7), (.ref b22)])) _
        refine st277.trans ?_
        show Steps p.tables e below (T277.setTop (mkF m 101 #[.val (.int x0), .val (.int x1), .val (.int (1 : Int32)), .val (.int (3 : Int32)), .val (.ref b1), .val (.ref b7), .val (.ref b14), .val (.ref b22), .unset, .unset] [(.int (1 : Int32))])) _
        refine XS.pop X277.here hx rfl (hb hby at_101) rfl rfl ?_
        show Steps p.tables e below (T277.setTop (mkF m 102 #[.val (.int x0), .val (.int x1), .val (.int (1 : Int32)), .val (.int (3 : Int32)), .val (.ref b1), .val (.ref b7), .val (.ref b14), .val (.ref b22), .unset, .unset] [])) _
        refine XS.iloadN X277.here hx rfl (hb hby at_102) rfl ?_
        show Steps p.tables e below (T277.setTop (mkF m 103 #[.val (.int x0), .val (.int x1), .val (.int (1 : Int32)), .val (.int (3 : Int32)), .val (.ref b1), .val (.ref b7), .val (.ref b14), .val (.ref b22), .unset, .unset] [(.int (3 : Int32))])) _
        refine XS.iconst X277.here hx rfl (hb hby at_103) ?_
        show Steps p.tables e below (T277.setTop (mkF m 104 #[.val (.int x0), .val (.int x1), .val (.int (1 : Int32)), .val (.int (3 : Int32)), .val (.ref b1), .val (.ref b7), .val (.ref b14), .val (.ref b22), .unset, .unset] [(.int (2 : Int32)), (.int (3 : Int32))])) _
        refine XS.icmpNo X277.here hx rfl (hb hby at_104) rfl (flt (by decide : ¬ ((3 : Int32) < (2 : Int32)))).1 ?_
        show Steps p.tables e below (T277.setTop (mkF m 107 #[.val (.int x0), .val (.int x1), .val (.int (1 : Int32)), .val (.int (3 : Int32)), .val (.ref b1), .val (.ref b7), .val (.ref b14), .val (.ref b22), .unset, .unset] [])) _
        refine XS.aload X277.here hx rfl (hb hby at_107) rfl rfl ?_
        show Steps p.tables e below (T277.setTop (mkF m 109 #[.val (.int x0), .val (.int x1), .val (.int (1 : Int32)), .val (.int (3 : Int32)), .val (.ref b1), .val (.ref b7), .val (.ref b14), .val (.ref b22), .unset, .unset] [(.ref b22)])) _
        refine XS.aload X277.here hx rfl (hb hby at_109) rfl rfl ?_
        show Steps p.tables e below (T277.setTop (mkF m 111 #[.val (.int x0), .val (.int x1), .val (.int (1 : Int32)), .val (.int (3 : Int32)), .val (.ref b1), .val (.ref b7), .val (.ref b14), .val (.ref b22), .unset, .unset] [(.ref b7), (.ref b22)])) _
        refine st285.trans ?_
        show Steps p.tables e below (T285.setTop (mkF m 114 #[.val (.int x0), .val (.int x1), .val (.int (1 : Int32)), .val (.int (3 : Int32)), .val (.ref b1), .val (.ref b7), .val (.ref b14), .val (.ref b22), .unset, .unset] [(.int (1 : Int32))])) _
        refine XS.pop X285.here hx rfl (hb hby at_114) rfl rfl ?_
        show Steps p.tables e below (T285.setTop (mkF m 115 #[.val (.int x0), .val (.int x1), .val (.int (1 : Int32)), .val (.int (3 : Int32)), .val (.ref b1), .val (.ref b7), .val (.ref b14), .val (.ref b22), .unset, .unset] [])) _
        refine XS.iloadN X285.here hx rfl (hb hby at_115) rfl ?_
        show Steps p.tables e below (T285.setTop (mkF m 116 #[.val (.int x0), .val (.int x1), .val (.int (1 : Int32)), .val (.int (3 : Int32)), .val (.ref b1), .val (.ref b7), .val (.ref b14), .val (.ref b22), .unset, .unset] [(.int (3 : Int32))])) _
        refine XS.iconst X285.here hx rfl (hb hby at_116) ?_
        show Steps p.tables e below (T285.setTop (mkF m 117 #[.val (.int x0), .val (.int x1), .val (.int (1 : Int32)), .val (.int (3 : Int32)), .val (.ref b1), .val (.ref b7), .val (.ref b14), .val (.ref b22), .unset, .unset] [(.int (3 : Int32)), (.int (3 : Int32))])) _
        refine XS.icmpNo X285.here hx rfl (hb hby at_117) rfl (flt (by decide : ¬ ((3 : Int32) < (3 : Int32)))).1 ?_
        show Steps p.tables e below (T285.setTop (mkF m 120 #[.val (.int x0), .val (.int x1), .val (.int (1 : Int32)), .val (.int (3 : Int32)), .val (.ref b1), .val (.ref b7), .val (.ref b14), .val (.ref b22), .unset, .unset] [])) _
        refine XS.aload X285.here hx rfl (hb hby at_120) rfl rfl ?_
        show Steps p.tables e below (T285.setTop (mkF m 122 #[.val (.int x0), .val (.int x1), .val (.int (1 : Int32)), .val (.int (3 : Int32)), .val (.ref b1), .val (.ref b7), .val (.ref b14), .val (.ref b22), .unset, .unset] [(.ref b22)])) _
        refine XS.aload X285.here hx rfl (hb hby at_122) rfl rfl ?_
        show Steps p.tables e below (T285.setTop (mkF m 124 #[.val (.int x0), .val (.int x1), .val (.int (1 : Int32)), .val (.int (3 : Int32)), .val (.ref b1), .val (.ref b7), .val (.ref b14), .val (.ref b22), .unset, .unset] [(.ref b7), (.ref b22)])) _
        refine st294.trans ?_
        show Steps p.tables e below (T294.setTop (mkF m 127 #[.val (.int x0), .val (.int x1), .val (.int (1 : Int32)), .val (.int (3 : Int32)), .val (.ref b1), .val (.ref b7), .val (.ref b14), .val (.ref b22), .unset, .unset] [(.int (1 : Int32))])) _
        refine XS.pop X294.here hx rfl (hb hby at_127) rfl rfl ?_
        show Steps p.tables e below (T294.setTop (mkF m 128 #[.val (.int x0), .val (.int x1), .val (.int (1 : Int32)), .val (.int (3 : Int32)), .val (.ref b1), .val (.ref b7), .val (.ref b14), .val (.ref b22), .unset, .unset] [])) _
        refine st303 _ ?_
        show Steps p.tables e below (T303.setTop (mkF m 131 #[.val (.int x0), .val (.int x1), .val (.int (1 : Int32)), .val (.int (3 : Int32)), .val (.ref b1), .val (.ref b7), .val (.ref b14), .val (.ref b22), .unset, .unset] [(.ref b303)])) _
        refine XS.dup X303.here hx rfl (hb hby at_131) rfl rfl ?_
        show Steps p.tables e below (T303.setTop (mkF m 132 #[.val (.int x0), .val (.int x1), .val (.int (1 : Int32)), .val (.int (3 : Int32)), .val (.ref b1), .val (.ref b7), .val (.ref b14), .val (.ref b22), .unset, .unset] [(.ref b303), (.ref b303)])) _
        refine XS.aload X303.here hx rfl (hb hby at_132) rfl rfl ?_
        show Steps p.tables e below (T303.setTop (mkF m 134 #[.val (.int x0), .val (.int x1), .val (.int (1 : Int32)), .val (.int (3 : Int32)), .val (.ref b1), .val (.ref b7), .val (.ref b14), .val (.ref b22), .unset, .unset] [(.ref b14), (.ref b303), (.ref b303)])) _
        refine XS.aload X303.here hx rfl (hb hby at_134) rfl rfl ?_
        show Steps p.tables e below (T303.setTop (mkF m 136 #[.val (.int x0), .val (.int x1), .val (.int (1 : Int32)), .val (.int (3 : Int32)), .val (.ref b1), .val (.ref b7), .val (.ref b14), .val (.ref b22), .unset, .unset] [(.ref b22), (.ref b14), (.ref b303), (.ref b303)])) _
        refine st317.trans ?_
        show Steps p.tables e below (T317.setTop (mkF m 139 #[.val (.int x0), .val (.int x1), .val (.int (1 : Int32)), .val (.int (3 : Int32)), .val (.ref b1), .val (.ref b7), .val (.ref b14), .val (.ref b22), .unset, .unset] [(.ref b303)])) _
        refine XS.astore X317.here hx rfl (hb hby at_139) rfl rfl (l' := #[.val (.int x0), .val (.int x1), .val (.int (1 : Int32)), .val (.int (3 : Int32)), .val (.ref b1), .val (.ref b7), .val (.ref b14), .val (.ref b22), .val (.ref b303), .unset]) rfl ?_
        show Steps p.tables e below (T317.setTop (mkF m 141 #[.val (.int x0), .val (.int x1), .val (.int (1 : Int32)), .val (.int (3 : Int32)), .val (.ref b1), .val (.ref b7), .val (.ref b14), .val (.ref b22), .val (.ref b303), .unset] [])) _
        refine XS.iloadN X317.here hx rfl (hb hby at_141) rfl ?_
        show Steps p.tables e below (T317.setTop (mkF m 142 #[.val (.int x0), .val (.int x1), .val (.int (1 : Int32)), .val (.int (3 : Int32)), .val (.ref b1), .val (.ref b7), .val (.ref b14), .val (.ref b22), .val (.ref b303), .unset] [(.int (1 : Int32))])) _
        refine XS.ifYes X317.here hx rfl (pc0 := 142) (pc' := 159) rfl (hb hby at_142) rfl ((if0 _ _).trans (feq (by decide : ¬ ((1 : Int32) = (0 : Int32)))).2) (by decide) (by decide) ?_
        show Steps p.tables e below (T317.setTop (mkF m 159 #[.val (.int x0), .val (.int x1), .val (.int (1 : Int32)), .val (.int (3 : Int32)), .val (.ref b1), .val (.ref b7), .val (.ref b14), .val (.ref b22), .val (.ref b303), .unset] [])) _
        refine XS.iconst X317.here hx rfl (hb hby at_159) ?_
        show Steps p.tables e below (T317.setTop (mkF m 160 #[.val (.int x0), .val (.int x1), .val (.int (1 : Int32)), .val (.int (3 : Int32)), .val (.ref b1), .val (.ref b7), .val (.ref b14), .val (.ref b22), .val (.ref b303), .unset] [(.int (0 : Int32))])) _
        refine XS.istore X317.here hx rfl (hb hby at_160) rfl (l' := #[.val (.int x0), .val (.int x1), .val (.int (1 : Int32)), .val (.int (3 : Int32)), .val (.ref b1), .val (.ref b7), .val (.ref b14), .val (.ref b22), .val (.ref b303), .val (.int (0 : Int32))]) rfl ?_
        show Steps p.tables e below (T317.setTop (mkF m 162 #[.val (.int x0), .val (.int x1), .val (.int (1 : Int32)), .val (.int (3 : Int32)), .val (.ref b1), .val (.ref b7), .val (.ref b14), .val (.ref b22), .val (.ref b303), .val (.int (0 : Int32))] [])) _
        refine XS.aload X317.here hx rfl (hb hby at_162) rfl rfl ?_
        show Steps p.tables e below (T317.setTop (mkF m 164 #[.val (.int x0), .val (.int x1), .val (.int (1 : Int32)), .val (.int (3 : Int32)), .val (.ref b1), .val (.ref b7), .val (.ref b14), .val (.ref b22), .val (.ref b303), .val (.int (0 : Int32))] [(.ref b303)])) _
        refine st320.trans ?_
        show Steps p.tables e below (T320.setTop (mkF m 167 #[.val (.int x0), .val (.int x1), .val (.int (1 : Int32)), .val (.int (3 : Int32)), .val (.ref b1), .val (.ref b7), .val (.ref b14), .val (.ref b22), .val (.ref b303), .val (.int (0 : Int32))] [(.int (adm (0 : Int32) (0 : Int32)))])) _
        refine XS.iload X320.here hx rfl (hb hby at_167) rfl ?_
        show Steps p.tables e below (T320.setTop (mkF m 169 #[.val (.int x0), .val (.int x1), .val (.int (1 : Int32)), .val (.int (3 : Int32)), .val (.ref b1), .val (.ref b7), .val (.ref b14), .val (.ref b22), .val (.ref b303), .val (.int (0 : Int32))] [(.int (0 : Int32)), (.int (adm (0 : Int32) (0 : Int32)))])) _
        refine XS.icmpNo X320.here hx rfl (hb hby at_169) rfl (teq (by decide)).2 ?_
        show Steps p.tables e below (T320.setTop (mkF m 172 #[.val (.int x0), .val (.int x1), .val (.int (1 : Int32)), .val (.int (3 : Int32)), .val (.ref b1), .val (.ref b7), .val (.ref b14), .val (.ref b22), .val (.ref b303), .val (.int (0 : Int32))] [])) _
        refine XS.iconst X320.here hx rfl (hb hby at_172) ?_
        show Steps p.tables e below (T320.setTop (mkF m 173 #[.val (.int x0), .val (.int x1), .val (.int (1 : Int32)), .val (.int (3 : Int32)), .val (.ref b1), .val (.ref b7), .val (.ref b14), .val (.ref b22), .val (.ref b303), .val (.int (0 : Int32))] [(.int (1 : Int32))])) _
        refine XS.goto X320.here hx rfl (pc0 := 173) (pc' := 177) rfl (hb hby at_173) (by decide) (by decide) ?_
        show Steps p.tables e below (T320.setTop (mkF m 177 #[.val (.int x0), .val (.int x1), .val (.int (1 : Int32)), .val (.int (3 : Int32)), .val (.ref b1), .val (.ref b7), .val (.ref b14), .val (.ref b22), .val (.ref b303), .val (.int (0 : Int32))] [(.int (1 : Int32))])) _
        exact retOut X320 hx Bd.returns rfl (Or.inl ⟨rfl, Or.inr (Or.inl rfl), _, rfl⟩) (hb hby at_177) hretL
      · show Q_rm0 Z x0 x1 de kde el tel kel em mr h0 n0 _ T320.heap _
        rw [eq320]
        exact ⟨rfl, N322⟩
  · have pre323 : ∀ tgt, Steps p.tables e below (T24.setTop (mkF m 50 #[.val (.int x0), .val (.int x1), .val (.int (2 : Int32)), .val (.int (x1 &&& (3 : Int32))), .val (.ref b1), .val (.ref b7), .val (.ref b14), .val (.ref b22), .unset, .unset] [])) tgt → Steps p.tables e below (s₁.setTop (entryFrame m #[(.int x0), (.int x1)] maxLocals)) tgt := by
      have q := pre27
      rw [hqx0] at q
      exact q
    have f324 := ((f21.ext E22).keep kp24)
    have f325 := ((gm16.ext E22).keep kp24 (ninS neb14_22 nin0))
    have f326 := ((gs16.ext E22).keep kp24 (ninS neb14_22 nin0))
    have f327 := ((ge16.ext E22).keep kp24 (ninS neb14_22 nin0))
    have f328 := ((f19.ext E22).keep kp24)
    have f329 := ((f20.ext E22).keep kp24)
    have f330 := (A22.keep kp24)
    obtain ⟨cq331, kq331, q331a, q331b, q331c⟩ := isOf hZ rfl f324
    obtain ⟨_, _, ⟨T331, L331, k331, n331⟩, -, X331, ⟨Lc331, hQ331, l331, y331, z331⟩, st331⟩ := X24.virtualBack hx (y := (⟨"java/util/ArrayList", "add", "(Ljava/lang/Object;)Z"⟩ : MethodName)) (z := (⟨"java/util/ArrayList", "add", "(Ljava/lang/Object;)Z"⟩ : MethodName)) hown (mvT hZ (ow57 hw)) (mvT hZ (ow58 hw)) (notFace_of_selects (args := #[]) (mvT hZ (ow60 hw))) (mvT hZ (ow60 hw)) (mvT hZ (ow59 hw)) (by decide) (backOf (W := 0) (rmad0 l Z a0 hw [] b14 b1 de kde (0 : Int32) "com/example/atropos/atropos/ops/Excess$Span" T24.heap n0 Ol26 Sde Ade f324 f325 f326 f327 gn14 f328 (ow205 hw)) hZ (ow61 hw) (ow35 hw) (by decide) (by decide)) q331a q331c (g := (mkF m 59 #[.val (.int x0), .val (.int x1), .val (.int (2 : Int32)), .val (.int (x1 &&& (3 : Int32))), .val (.ref b1), .val (.ref b7), .val (.ref b14), .val (.ref b22), .unset, .unset] [(.ref b1), (.ref b14)])) rfl (by rw [hml]; rfl) (Steps.refl _) (argsL := [(.ref b1)]) (rest := []) (lenOf pd18 rfl) rfl (by show 2 * 0 + _ ≤ _; exact Nat.le_of_eq rfl) (hb hby at_59) (fun _ _ => ⟨rfl, rfl, (by decide : 4 + 1 ≤ _), (by decide : 12 + 10 ≤ _)⟩)
    dsimp only [Pt.U, Pt.locs, Pt.cells, Pt.slots] at X331 l331 y331 z331 st331 hQ331
    subst l331 y331 z331
    obtain ⟨gb331, gk331, rfl, Nq331, kp331, gg331, gz331, go331, gE331, gm331, gs331, ge331, ga331⟩ := hQ331
    have N332 := Fr.app N25 Nq331
    have Ol333 := Ol26.keep kp331 (allS gn14 all0)
    have gne331_b1 : b1 ≠ gb331 := Nat.ne_of_lt (Nat.lt_of_lt_of_le f328.lt gz331)
    have gne331_b7 : b7 ≠ gb331 := Nat.ne_of_lt (Nat.lt_of_lt_of_le f329.lt gz331)
    have gne331_b14 : b14 ≠ gb331 := Nat.ne_of_lt (Nat.lt_of_lt_of_le f324.lt gz331)
    have gne331_b22 : b22 ≠ gb331 := Nat.ne_of_lt (Nat.lt_of_lt_of_le f330.lt gz331)
    have f334 := (f324.keep kp331)
    have f335 := (f328.keep kp331)
    have f336 := (f329.keep kp331)
    have f337 := (f330.keep kp331)
    obtain ⟨cq338, kq338, q338a, q338b, q338c⟩ := isOf hZ rfl f334
    obtain ⟨_, _, ⟨T338, L338, k338, n338⟩, -, X338, ⟨Lc338, hQ338, l338, y338, z338⟩, st338⟩ := X331.virtualBack hx (y := (⟨"java/util/ArrayList", "add", "(Ljava/lang/Object;)Z"⟩ : MethodName)) (z := (⟨"java/util/ArrayList", "add", "(Ljava/lang/Object;)Z"⟩ : MethodName)) hown (mvT hZ (ow57 hw)) (mvT hZ (ow58 hw)) (notFace_of_selects (args := #[]) (mvT hZ (ow60 hw))) (mvT hZ (ow60 hw)) (mvT hZ (ow59 hw)) (by decide) (backOf (W := 0) (rmad1 l Z a0 hw [] b14 b1 ((0 : Int32) + (1 : Int32)) gb331 gk331 "com/example/atropos/atropos/ops/Excess$Span" T331.heap n0 Ol333 ga331 go331 gg331 gne331_b14 f334 gm331 gs331 ge331 gn14 f335 (ow205 hw)) hZ (ow61 hw) (ow35 hw) (by decide) (by decide)) q338a q338c (g := (mkF m 72 #[.val (.int x0), .val (.int x1), .val (.int (2 : Int32)), .val (.int (x1 &&& (3 : Int32))), .val (.ref b1), .val (.ref b7), .val (.ref b14), .val (.ref b22), .unset, .unset] [(.ref b1), (.ref b14)])) rfl (by rw [hml]; rfl) (Steps.refl _) (argsL := [(.ref b1)]) (rest := []) (lenOf pd18 rfl) rfl (by show 2 * 0 + _ ≤ _; exact Nat.le_of_eq rfl) (hb hby at_72) (fun _ _ => ⟨rfl, rfl, (by decide : 5 + 0 ≤ _), (by decide : 22 + 0 ≤ _)⟩)
    dsimp only [Pt.U, Pt.locs, Pt.cells, Pt.slots] at X338 l338 y338 z338 st338 hQ338
    subst l338 y338 z338
    obtain ⟨rfl, Nq338, kp338, gm338, gs338, ge338, ga338⟩ := hQ338
    have N339 := Fr.app N332 Nq338
    have Ol340 := Ol333.keep kp338 (allS gn14 (allS gg331 all0))
    have pre341 : ∀ tgt, Steps p.tables e below (T338.setTop (mkF m 89 #[.val (.int x0), .val (.int x1), .val (.int (2 : Int32)), .val (.int (x1 &&& (3 : Int32))), .val (.ref b1), .val (.ref b7), .val (.ref b14), .val (.ref b22), .unset, .unset] [])) tgt → Steps p.tables e below (s₁.setTop (entryFrame m #[(.int x0), (.int x1)] maxLocals)) tgt := by
      intro tgt kgo
      refine pre323 _ ?_
      refine XS.iloadN X24.here hx rfl (hb hby at_50) rfl ?_
      show Steps p.tables e below (T24.setTop (mkF m 51 #[.val (.int x0), .val (.int x1), .val (.int (2 : Int32)), .val (.int (x1 &&& (3 : Int32))), .val (.ref b1), .val (.ref b7), .val (.ref b14), .val (.ref b22), .unset, .unset] [(.int (2 : Int32))])) _
      refine XS.iconst X24.here hx rfl (hb hby at_51) ?_
      show Steps p.tables e below (T24.setTop (mkF m 52 #[.val (.int x0), .val (.int x1), .val (.int (2 : Int32)), .val (.int (x1 &&& (3 : Int32))), .val (.ref b1), .val (.ref b7), .val (.ref b14), .val (.ref b22), .unset, .unset] [(.int (1 : Int32)), (.int (2 : Int32))])) _
      refine XS.icmpNo X24.here hx rfl (hb hby at_52) rfl (flt (by decide : ¬ ((2 : Int32) < (1 : Int32)))).1 ?_
      show Steps p.tables e below (T24.setTop (mkF m 55 #[.val (.int x0), .val (.int x1), .val (.int (2 : Int32)), .val (.int (x1 &&& (3 : Int32))), .val (.ref b1), .val (.ref b7), .val (.ref b14), .val (.ref b22), .unset, .unset] [])) _
      refine XS.aload X24.here hx rfl (hb hby at_55) rfl rfl ?_
      show Steps p.tables e below (T24.setTop (mkF m 57 #[.val (.int x0), .val (.int x1), .val (.int (2 : Int32)), .val (.int (x1 &&& (3 : Int32))), .val (.ref b1), .val (.ref b7), .val (.ref b14), .val (.ref b22), .unset, .unset] [(.ref b14)])) _
      refine XS.aload X24.here hx rfl (hb hby at_57) rfl rfl ?_
      show Steps p.tables e below (T24.setTop (mkF m 59 #[.val (.int x0), .val (.int x1), .val (.int (2 : Int32)), .val (.int (x1 &&& (3 : Int32))), .val (.ref b1), .val (.ref b7), .val (.ref b14), .val (.ref b22), .unset, .unset] [(.ref b1), (.ref b14)])) _
      refine st331.trans ?_
      show Steps p.tables e below (T331.setTop (mkF m 62 #[.val (.int x0), .val (.int x1), .val (.int (2 : Int32)), .val (.int (x1 &&& (3 : Int32))), .val (.ref b1), .val (.ref b7), .val (.ref b14), .val (.ref b22), .unset, .unset] [(.int (1 : Int32))])) _
      refine XS.pop X331.here hx rfl (hb hby at_62) rfl rfl ?_
      show Steps p.tables e below (T331.setTop (mkF m 63 #[.val (.int x0), .val (.int x1), .val (.int (2 : Int32)), .val (.int (x1 &&& (3 : Int32))), .val (.ref b1), .val (.ref b7), .val (.ref b14), .val (.ref b22), .unset, .unset] [])) _
      refine XS.iloadN X331.here hx rfl (hb hby at_63) rfl ?_
      show Steps p.tables e below (T331.setTop (mkF m 64 #[.val (.int x0), .val (.int x1), .val (.int (2 : Int32)), .val (.int (x1 &&& (3 : Int32))), .val (.ref b1), .val (.ref b7), .val (.ref b14), .val (.ref b22), .unset, .unset] [(.int (2 : Int32))])) _
      refine XS.iconst X331.here hx rfl (hb hby at_64) ?_
      show Steps p.tables e below (T331.setTop (mkF m 65 #[.val (.int x0), .val (.int x1), .val (.int (2 : Int32)), .val (.int (x1 &&& (3 : Int32))), .val (.ref b1), .val (.ref b7), .val (.ref b14), .val (.ref b22), .unset, .unset] [(.int (2 : Int32)), (.int (2 : Int32))])) _
      refine XS.icmpNo X331.here hx rfl (hb hby at_65) rfl (flt (by decide : ¬ ((2 : Int32) < (2 : Int32)))).1 ?_
      show Steps p.tables e below (T331.setTop (mkF m 68 #[.val (.int x0), .val (.int x1), .val (.int (2 : Int32)), .val (.int (x1 &&& (3 : Int32))), .val (.ref b1), .val (.ref b7), .val (.ref b14), .val (.ref b22), .unset, .unset] [])) _
      refine XS.aload X331.here hx rfl (hb hby at_68) rfl rfl ?_
      show Steps p.tables e below (T331.setTop (mkF m 70 #[.val (.int x0), .val (.int x1), .val (.int (2 : Int32)), .val (.int (x1 &&& (3 : Int32))), .val (.ref b1), .val (.ref b7), .val (.ref b14), .val (.ref b22), .unset, .unset] [(.ref b14)])) _
      refine XS.aload X331.here hx rfl (hb hby at_70) rfl rfl ?_
      show Steps p.tables e below (T331.setTop (mkF m 72 #[.val (.int x0), .val (.int x1), .val (.int (2 : Int32)), .val (.int (x1 &&& (3 : Int32))), .val (.ref b1), .val (.ref b7), .val (.ref b14), .val (.ref b22), .unset, .unset] [(.ref b1), (.ref b14)])) _
      refine st338.trans ?_
      show Steps p.tables e below (T338.setTop (mkF m 75 #[.val (.int x0), .val (.int x1), .val (.int (2 : Int32)), .val (.int (x1 &&& (3 : Int32))), .val (.ref b1), .val (.ref b7), .val (.ref b14), .val (.ref b22), .unset, .unset] [(.int (1 : Int32))])) _
      refine XS.pop X338.here hx rfl (hb hby at_75) rfl rfl ?_
      show Steps p.tables e below (T338.setTop (mkF m 76 #[.val (.int x0), .val (.int x1), .val (.int (2 : Int32)), .val (.int (x1 &&& (3 : Int32))), .val (.ref b1), .val (.ref b7), .val (.ref b14), .val (.ref b22), .unset, .unset] [])) _
      refine XS.iloadN X338.here hx rfl (hb hby at_76) rfl ?_
      show Steps p.tables e below (T338.setTop (mkF m 77 #[.val (.int x0), .val (.int x1), .val (.int (2 : Int32)), .val (.int (x1 &&& (3 : Int32))), .val (.ref b1), .val (.ref b7), .val (.ref b14), .val (.ref b22), .unset, .unset] [(.int (2 : Int32))])) _
      refine XS.iconst X338.here hx rfl (hb hby at_77) ?_
      show Steps p.tables e below (T338.setTop (mkF m 78 #[.val (.int x0), .val (.int x1), .val (.int (2 : Int32)), .val (.int (x1 &&& (3 : Int32))), .val (.ref b1), .val (.ref b7), .val (.ref b14), .val (.ref b22), .unset, .unset] [(.int (3 : Int32)), (.int (2 : Int32))])) _
      refine XS.icmpYes X338.here hx rfl (pc0 := 78) (pc' := 89) rfl (hb hby at_78) rfl (tlt (by decide : (2 : Int32) < (3 : Int32))).1 (by decide) (by decide) ?_
      show Steps p.tables e below (T338.setTop (mkF m 89 #[.val (.int x0), .val (.int x1), .val (.int (2 : Int32)), .val (.int (x1 &&& (3 : Int32))), .val (.ref b1), .val (.ref b7), .val (.ref b14), .val (.ref b22), .unset, .unset] [])) _
      exact kgo
    rcases own_and3 x1 with hqx1 | hqx1 | hqx1 | hqx1
    · have pre342 : ∀ tgt, Steps p.tables e below (T338.setTop (mkF m 89 #[.val (.int x0), .val (.int x1), .val (.int (2 : Int32)), .val (.int (0 : Int32)), .val (.ref b1), .val (.ref b7), .val (.ref b14), .val (.ref b22), .unset, .unset] [])) tgt → Steps p.tables e below (s₁.setTop (entryFrame m #[(.int x0), (.int x1)] maxLocals)) tgt := by
        have q := pre341
        rw [hqx1] at q
        exact q
      have f343 := (f335.keep kp338)
      have f344 := (f336.keep kp338)
      have f345 := (f334.keep kp338)
      have f346 := (f337.keep kp338)
      have f347 := (gE331.keep kp338)
      obtain ⟨T348, h348, X348, e348, E348, A348, D348, U348, st348⟩ := newO X338 hx hZ hown (ow88 hw) (ow89 hw) (ow90 hw) rfl (g := (mkF m 128 #[.val (.int x0), .val (.int x1), .val (.int (2 : Int32)), .val (.int (0 : Int32)), .val (.ref b1), .val (.ref b7), .val (.ref b14), .val (.ref b22), .unset, .unset] [])) rfl (hb hby at_128) (by decide) (by decide)
      obtain ⟨b348, g348⟩ : ∃ z, z = T338.heap.size := ⟨_, rfl⟩
      rw [← g348] at A348 D348 U348 st348
      have gn348 : n0 ≤ b348 := Nat.le_trans (own_sz Ol340) (Nat.le_of_eq g348.symm)
      have neb1_348 : b1 ≠ b348 := Nat.ne_of_lt (Nat.lt_of_lt_of_le f343.lt (Nat.le_of_eq g348.symm))
      have neb7_348 : b7 ≠ b348 := Nat.ne_of_lt (Nat.lt_of_lt_of_le f344.lt (Nat.le_of_eq g348.symm))
      have neb14_348 : b14 ≠ b348 := Nat.ne_of_lt (Nat.lt_of_lt_of_le f345.lt (Nat.le_of_eq g348.symm))
      have neb22_348 : b22 ≠ b348 := Nat.ne_of_lt (Nat.lt_of_lt_of_le f346.lt (Nat.le_of_eq g348.symm))
      have negb331_348 : gb331 ≠ b348 := Nat.ne_of_lt (Nat.lt_of_lt_of_le f347.lt (Nat.le_of_eq g348.symm))
      have Ol349 := Ol340.ext E348
      have FserviceExceeded_348 : Fld Z h348 b348 "com/example/atropos/atropos/analysis/Admission" "serviceExceeded" "Ljava/util/List;" .null := D348 (Or.inr (ow188 hw)) (ty := (.object "java/util/List")) (by decide)
      have FrateExceeded_348 : Fld Z h348 b348 "com/example/atropos/atropos/analysis/Admission" "rateExceeded" "Ljava/util/List;" .null := D348 (Or.inr (ow190 hw)) (ty := (.object "java/util/List")) (by decide)
      have f350 := (f345.ext E348)
      have f351 := (gs338.ext E348)
      have f352 := (ge338.ext E348)
      have f353 := (ga338.ext E348)
      have f354 := (f347.ext E348)
      have f355 := (f343.ext E348)
      have f356 := (f346.ext E348)
      have f357 := (((gs24.keep kp331 (ninS (Ne.symm neb14_22) nin0)).keep kp338 (ninS (Ne.symm neb14_22) (ninS gne331_b22 nin0))).ext E348)
      obtain ⟨_, _, ⟨T358, L358, k358, n358⟩, -, X358, ⟨Lc358, hQ358, l358, y358, z358⟩, st358⟩ := X348.specialBack hx (y := (⟨"com/example/atropos/atropos/analysis/Admission", "<init>", "(Ljava/util/List;Ljava/util/List;)V"⟩ : MethodName)) rfl hown (mvT hZ (ow91 hw)) (mvT hZ (ow92 hw)) (mvT hZ (ow93 hw)) (by decide) (backOf (W := 1) (rmadm l Z a0 hw [] b348 b14 b22 (0 : Int32) (1 : Int32) el tel kel em mr h348 n0 Ol349 A348 FserviceExceeded_348 FrateExceeded_348 gn348 (Or.inr (Or.inr (Or.inl ⟨b1, _, gb331, _, rfl, f350, f351, f352, f353, f354, f355, (ow205 hw)⟩))) (Or.inl ⟨rfl, f356, f357⟩) Sel Sem hM Eel Fel Ael) hZ (ow93 hw) (ow90 hw) (by decide) (by decide)) (g := (mkF m 136 #[.val (.int x0), .val (.int x1), .val (.int (2 : Int32)), .val (.int (0 : Int32)), .val (.ref b1), .val (.ref b7), .val (.ref b14), .val (.ref b22), .unset, .unset] [(.ref b22), (.ref b14), (.ref b348), (.ref b348)])) rfl (by rw [hml]; rfl) (Steps.refl _) (a := b348) (argsL := [(.ref b14), (.ref b22)]) (rest := [(.ref b348)]) (lenOf pd17 rfl) rfl (by show 2 * 0 + _ ≤ _; exact Nat.le_of_eq rfl) (hb hby at_136) (fun _ _ => ⟨rfl, e348, (by decide : 6 + 6 ≤ _), (by decide : 24 + 16 ≤ _)⟩)
      dsimp only [Pt.U, Pt.locs, Pt.cells, Pt.slots] at X358 l358 y358 z358 st358 hQ358
      subst l358 y358 z358
      obtain ⟨r1358, r2358, rfl, Nq358, kp358, f1358, f2358, e1358, e2358⟩ := hQ358
      have N359 := Fr.app N339 Nq358
      have Ol360 := Ol349.keep kp358 (allS gn348 all0)
      have f362 := (A348.keep kp358)
      obtain ⟨cq361, kq361, q361a, q361b, q361c⟩ := isOf hZ rfl f362
      obtain ⟨_, _, ⟨T361, L361, k361, n361⟩, -, X361, ⟨Lc361, hQ361, l361, y361, z361⟩, st361⟩ := X358.virtualBack hx (y := (⟨"com/example/atropos/atropos/analysis/Admission", "admits", "()Z"⟩ : MethodName)) (z := (⟨"com/example/atropos/atropos/analysis/Admission", "admits", "()Z"⟩ : MethodName)) hown (mvT hZ (ow191 hw)) (mvT hZ (ow192 hw)) (notFace_of_selects (args := #[]) (mvT hZ (ow194 hw))) (mvT hZ (ow194 hw)) (mvT hZ (ow193 hw)) (by decide) (backOf (W := 0) (rmadt l Z a0 hw [] b348 r1358 r2358 (0 : Int32) (1 : Int32) T358.heap n0 Ol360 f1358 f2358 e1358 e2358) hZ (ow195 hw) (ow90 hw) (by decide) (by decide)) q361a q361c (g := (mkF m 164 #[.val (.int x0), .val (.int x1), .val (.int (2 : Int32)), .val (.int (0 : Int32)), .val (.ref b1), .val (.ref b7), .val (.ref b14), .val (.ref b22), .val (.ref b348), .val (.int (0 : Int32))] [(.ref b348)])) rfl (by rw [hml]; rfl) (Steps.refl _) (argsL := []) (rest := []) (lenOf pd12 rfl) rfl (by show 2 * 0 + _ ≤ _; exact Nat.le_of_eq rfl) (hb hby at_164) (fun _ _ => ⟨rfl, rfl, (by decide : 12 + 0 ≤ _), (by decide : 40 + 0 ≤ _)⟩)
      dsimp only [Pt.U, Pt.locs, Pt.cells, Pt.slots] at X361 l361 y361 z361 st361 hQ361
      subst l361 y361 z361
      obtain ⟨rfl, Nq361, eq361⟩ := hQ361
      have N363 := Fr.app N359 Nq361
      obtain ⟨fs, hretL, hrun, hended, hW, hsame⟩ := X361.leave (v := some (.int (1 : Int32))) (fun h => by rw [Bd.returns] at h; cases h)
      refine ⟨_, _, pre342 _ ?_, hrun, hended, _, _, rfl, ?_, ⟨_, rfl⟩, hW, hsame.mono (by decide) (by decide)⟩
      · refine XS.iloadN X338.here hx rfl (hb hby at_89) rfl ?_
        show Steps p.tables e below (T338.setTop (mkF m 90 #[.val (.int x0), .val (.int x1), .val (.int (2 : Int32)), .val (.int (0 : Int32)), .val (.ref b1), .val (.ref b7), .val (.ref b14), .val (.ref b22), .unset, .unset] [(.int (0 : Int32))])) _
        refine XS.iconst X338.here hx rfl (hb hby at_90) ?_
        show Steps p.tables e below (T338.setTop (mkF m 91 #[.val (.int x0), .val (.int x1), .val (.int (2 : Int32)), .val (.int (0 : Int32)), .val (.ref b1), .val (.ref b7), .val (.ref b14), .val (.ref b22), .unset, .unset] [(.int (1 : Int32)), (.int (0 : Int32))])) _
        refine XS.icmpYes X338.here hx rfl (pc0 := 91) (pc' := 102) rfl (hb hby at_91) rfl (tlt (by decide : (0 : Int32) < (1 : Int32))).1 (by decide) (by decide) ?_
        show Steps p.tables e below (T338.setTop (mkF m 102 #[.val (.int x0), .val (.int x1), .val (.int (2 : Int32)), .val (.int (0 : Int32)), .val (.ref b1), .val (.ref b7), .val (.ref b14), .val (.ref b22), .unset, .unset] [])) _
        refine XS.iloadN X338.here hx rfl (hb hby at_102) rfl ?_
        show Steps p.tables e below (T338.setTop (mkF m 103 #[.val (.int x0), .val (.int x1), .val (.int (2 : Int32)), .val (.int (0 : Int32)), .val (.ref b1), .val (.ref b7), .val (.ref b14), .val (.ref b22), .unset, .unset] [(.int (0 : Int32))])) _
        refine XS.iconst X338.here hx rfl (hb hby at_103) ?_
        show Steps p.tables e below (T338.setTop (mkF m 104 #[.val (.int x0), .val (.int x1), .val (.int (2 : Int32)), .val (.int (0 : Int32)), .val (.ref b1), .val (.ref b7), .val (.ref b14), .val (.ref b22), .unset, .unset] [(.int (2 : Int32)), (.int (0 : Int32))])) _
        refine XS.icmpYes X338.here hx rfl (pc0 := 104) (pc' := 115) rfl (hb hby at_104) rfl (tlt (by decide : (0 : Int32) < (2 : Int32))).1 (by decide) (by decide) ?_
        show Steps p.tables e below (T338.setTop (mkF m 115 #[.val (.int x0), .val (.int x1), .val (.int (2 : Int32)), .val (.int (0 : Int32)), .val (.ref b1), .val (.ref b7), .val (.ref b14), .val (.ref b22), .unset, .unset] [])) _
        refine XS.iloadN X338.here hx rfl (hb hby at_115) rfl ?_
        show Steps p.tables e below (T338.setTop (mkF m 116 #[.val (.int x0), .val (.int x1), .val (.int (2 : Int32)), .val (.int (0 : Int32)), .val (.ref b1), .val (.ref b7), .val (.ref b14), .val (.ref b22), .unset, .unset] [(.int (0 : Int32))])) _
        refine XS.iconst X338.here hx rfl (hb hby at_116) ?_
        show Steps p.tables e below (T338.setTop (mkF m 117 #[.val (.int x0), .val (.int x1), .val (.int (2 : Int32)), .val (.int (0 : Int32)), .val (.ref b1), .val (.ref b7), .val (.ref b14), .val (.ref b22), .unset, .unset] [(.int (3 : Int32)), (.int (0 : Int32))])) _
        refine XS.icmpYes X338.here hx rfl (pc0 := 117) (pc' := 128) rfl (hb hby at_117) rfl (tlt (by decide : (0 : Int32) < (3 : Int32))).1 (by decide) (by decide) ?_
        show Steps p.tables e below (T338.setTop (mkF m 128 #[.val (.int x0), .val (.int x1), .val (.int (2 : Int32)), .val (.int (0 : Int32)), .val (.ref b1), .val (.ref b7), .val (.ref b14), .val (.ref b22), .unset, .unset] [])) _
        refine st348 _ ?_
        show Steps p.tables e below (T348.setTop (mkF m 131 #[.val (.int x0), .val (.int x1), .val (.int (2 : Int32)), .val (.int (0 : Int32)), .val (.ref b1), .val (.ref b7), .val (.ref b14), .val (.ref b22), .unset, .unset] [(.ref b348)])) _
        refine XS.dup X348.here hx rfl (hb hby at_131) rfl rfl ?_
        show Steps p.tables e below (T348.setTop (mkF m 132 #[.val (.int x0), .val (.int x1), .val (.int (2 : Int32)), .val (.int (0 : Int32)), .val (.ref b1), .val (.ref b7), .val (.ref b14), .val (.ref b22), .unset, .unset] [(.ref b348), (.ref b348)])) _
        refine XS.aload X348.here hx rfl (hb hby at_132) rfl rfl ?_
        show Steps p.tables e below (T348.setTop (mkF m 134 #[.val (.int x0), .val (.int x1), .val (.int (2 : Int32)), .val (.int (0 : Int32)), .val (.ref b1), .val (.ref b7), .val (.ref b14), .val (.ref b22), .unset, .unset] [(.ref b14), (.ref b348), (.ref b348)])) _
        refine XS.aload X348.here hx rfl (hb hby at_134) rfl rfl ?_
        show Steps p.tables e below (T348.setTop (mkF m 136 #[.val (.int x0), .val (.int x1), .val (.int (2 : Int32)), .val (.int (0 : Int32)), .val (.ref b1), .val (.ref b7), .val (.ref b14), .val (.ref b22), .unset, .unset] [(.ref b22), (.ref b14), (.ref b348), (.ref b348)])) _
        refine st358.trans ?_
        show Steps p.tables e below (T358.setTop (mkF m 139 #[.val (.int x0), .val (.int x1), .val (.int (2 : Int32)), .val (.int (0 : Int32)), .val (.ref b1), .val (.ref b7), .val (.ref b14), .val (.ref b22), .unset, .unset] [(.ref b348)])) _
        refine XS.astore X358.here hx rfl (hb hby at_139) rfl rfl (l' := #[.val (.int x0), .val (.int x1), .val (.int (2 : Int32)), .val (.int (0 : Int32)), .val (.ref b1), .val (.ref b7), .val (.ref b14), .val (.ref b22), .val (.ref b348), .unset]) rfl ?_
        show Steps p.tables e below (T358.setTop (mkF m 141 #[.val (.int x0), .val (.int x1), .val (.int (2 : Int32)), .val (.int (0 : Int32)), .val (.ref b1), .val (.ref b7), .val (.ref b14), .val (.ref b22), .val (.ref b348), .unset] [])) _
        refine XS.iloadN X358.here hx rfl (hb hby at_141) rfl ?_
        show Steps p.tables e below (T358.setTop (mkF m 142 #[.val (.int x0), .val (.int x1), .val (.int (2 : Int32)), .val (.int (0 : Int32)), .val (.ref b1), .val (.ref b7), .val (.ref b14), .val (.ref b22), .val (.ref b348), .unset] [(.int (2 : Int32))])) _
        refine XS.ifYes X358.here hx rfl (pc0 := 142) (pc' := 159) rfl (hb hby at_142) rfl ((if0 _ _).trans (feq (by decide : ¬ ((2 : Int32) = (0 : Int32)))).2) (by decide) (by decide) ?_
        show Steps p.tables e below (T358.setTop (mkF m 159 #[.val (.int x0), .val (.int x1), .val (.int (2 : Int32)), .val (.int (0 : Int32)), .val (.ref b1), .val (.ref b7), .val (.ref b14), .val (.ref b22), .val (.ref b348), .unset] [])) _
        refine XS.iconst X358.here hx rfl (hb hby at_159) ?_
        show Steps p.tables e below (T358.setTop (mkF m 160 #[.val (.int x0), .val (.int x1), .val (.int (2 : Int32)), .val (.int (0 : Int32)), .val (.ref b1), .val (.ref b7), .val (.ref b14), .val (.ref b22), .val (.ref b348), .unset] [(.int (0 : Int32))])) _
        refine XS.istore X358.here hx rfl (hb hby at_160) rfl (l' := #[.val (.int x0), .val (.int x1), .val (.int (2 : Int32)), .val (.int (0 : Int32)), .val (.ref b1), .val (.ref b7), .val (.ref b14), .val (.ref b22), .val (.ref b348), .val (.int (0 : Int32))]) rfl ?_
        show Steps p.tables e below (T358.setTop (mkF m 162 #[.val (.int x0), .val (.int x1), .val (.int (2 : Int32)), .val (.int (0 : Int32)), .val (.ref b1), .val (.ref b7), .val (.ref b14), .val (.ref b22), .val (.ref b348), .val (.int (0 : Int32))] [])) _
        refine XS.aload X358.here hx rfl (hb hby at_162) rfl rfl ?_
        show Steps p.tables e below (T358.setTop (mkF m 164 #[.val (.int x0), .val (.int x1), .val (.int (2 : Int32)), .val (.int (0 : Int32)), .val (.ref b1), .val (.ref b7), .val (.ref b14), .val (.ref b22), .val (.ref b348), .val (.int (0 : Int32))] [(.ref b348)])) _
        refine st361.trans ?_
        show Steps p.tables e below (T361.setTop (mkF m 167 #[.val (.int x0), .val (.int x1), .val (.int (2 : Int32)), .val (.int (0 : Int32)), .val (.ref b1), .val (.ref b7), .val (.ref b14), .val (.ref b22), .val (.ref b348), .val (.int (0 : Int32))] [(.int (adm (0 : Int32) (1 : Int32)))])) _
        refine XS.iload X361.here hx rfl (hb hby at_167) rfl ?_
        show Steps p.tables e below (T361.setTop (mkF m 169 #[.val (.int x0), .val (.int x1), .val (.int (2 : Int32)), .val (.int (0 : Int32)), .val (.ref b1), .val (.ref b7), .val (.ref b14), .val (.ref b22), .val (.ref b348), .val (.int (0 : Int32))] [(.int (0 : Int32)), (.int (adm (0 : Int32) (1 : Int32)))])) _
        refine XS.icmpNo X361.here hx rfl (hb hby at_169) rfl (teq (by decide)).2 ?_
        show Steps p.tables e below (T361.setTop (mkF m 172 #[.val (.int x0), .val (.int x1), .val (.int (2 : Int32)), .val (.int (0 : Int32)), .val (.ref b1), .val (.ref b7), .val (.ref b14), .val (.ref b22), .val (.ref b348), .val (.int (0 : Int32))] [])) _
        refine XS.iconst X361.here hx rfl (hb hby at_172) ?_
        show Steps p.tables e below (T361.setTop (mkF m 173 #[.val (.int x0), .val (.int x1), .val (.int (2 : Int32)), .val (.int (0 : Int32)), .val (.ref b1), .val (.ref b7), .val (.ref b14), .val (.ref b22), .val (.ref b348), .val (.int (0 : Int32))] [(.int (1 : Int32))])) _
        refine XS.goto X361.here hx rfl (pc0 := 173) (pc' := 177) rfl (hb hby at_173) (by decide) (by decide) ?_
        show Steps p.tables e below (T361.setTop (mkF m 177 #[.val (.int x0), .val (.int x1), .val (.int (2 : Int32)), .val (.int (0 : Int32)), .val (.ref b1), .val (.ref b7), .val (.ref b14), .val (.ref b22), .val (.ref b348), .val (.int (0 : Int32))] [(.int (1 : Int32))])) _
        exact retOut X361 hx Bd.returns rfl (Or.inl ⟨rfl, Or.inr (Or.inl rfl), _, rfl⟩) (hb hby at_177) hretL
      · show Q_rm0 Z x0 x1 de kde el tel kel em mr h0 n0 _ T361.heap _
        rw [eq361]
        exact ⟨rfl, N363⟩
    · have pre364 : ∀ tgt, Steps p.tables e below (T338.setTop (mkF m 89 #[.val (.int x0), .val (.int x1), .val (.int (2 : Int32)), .val (.int (1 : Int32)), .val (.ref b1), .val (.ref b7), .val (.ref b14), .val (.ref b22), .unset, .unset] [])) tgt → Steps p.tables e below (s₁.setTop (entryFrame m #[(.int x0), (.int x1)] maxLocals)) tgt := by
        have q := pre341
        rw [hqx1] at q
        exact q
      have f365 := (f337.keep kp338)
      have f366 := ((gm24.keep kp331 (ninS (Ne.symm neb14_22) nin0)).keep kp338 (ninS (Ne.symm neb14_22) (ninS gne331_b22 nin0)))
      have f367 := ((gs24.keep kp331 (ninS (Ne.symm neb14_22) nin0)).keep kp338 (ninS (Ne.symm neb14_22) (ninS gne331_b22 nin0)))
      have f368 := ((ge24.keep kp331 (ninS (Ne.symm neb14_22) nin0)).keep kp338 (ninS (Ne.symm neb14_22) (ninS gne331_b22 nin0)))
      have f369 := (f336.keep kp338)
      have f370 := (f335.keep kp338)
      have f371 := (f334.keep kp338)
      have f372 := (gE331.keep kp338)
      obtain ⟨cq373, kq373, q373a, q373b, q373c⟩ := isOf hZ rfl f365
      obtain ⟨_, _, ⟨T373, L373, k373, n373⟩, -, X373, ⟨Lc373, hQ373, l373, y373, z373⟩, st373⟩ := X338.virtualBack hx (y := (⟨"java/util/ArrayList", "add", "(Ljava/lang/Object;)Z"⟩ : MethodName)) (z := (⟨"java/util/ArrayList", "add", "(Ljava/lang/Object;)Z"⟩ : MethodName)) hown (mvT hZ (ow57 hw)) (mvT hZ (ow58 hw)) (notFace_of_selects (args := #[]) (mvT hZ (ow60 hw))) (mvT hZ (ow60 hw)) (mvT hZ (ow59 hw)) (by decide) (backOf (W := 0) (rmad0 l Z a0 hw [] b22 b7 de kde (0 : Int32) "com/example/atropos/atropos/ops/Excess$Rate" T338.heap n0 Ol340 Sde Ade f365 f366 f367 f368 gn22 f369 (ow87 hw)) hZ (ow61 hw) (ow35 hw) (by decide) (by decide)) q373a q373c (g := (mkF m 98 #[.val (.int x0), .val (.int x1), .val (.int (2 : Int32)), .val (.int (1 : Int32)), .val (.ref b1), .val (.ref b7), .val (.ref b14), .val (.ref b22), .unset, .unset] [(.ref b7), (.ref b22)])) rfl (by rw [hml]; rfl) (Steps.refl _) (argsL := [(.ref b7)]) (rest := []) (lenOf pd18 rfl) rfl (by show 2 * 0 + _ ≤ _; exact Nat.le_of_eq rfl) (hb hby at_98) (fun _ _ => ⟨rfl, rfl, (by decide : 5 + 1 ≤ _), (by decide : 22 + 10 ≤ _)⟩)
      dsimp only [Pt.U, Pt.locs, Pt.cells, Pt.slots] at X373 l373 y373 z373 st373 hQ373
      subst l373 y373 z373
      obtain ⟨gb373, gk373, rfl, Nq373, kp373, gg373, gz373, go373, gE373, gm373, gs373, ge373, ga373⟩ := hQ373
      have N374 := Fr.app N339 Nq373
      have Ol375 := Ol340.keep kp373 (allS gn22 all0)
      have gne373_b1 : b1 ≠ gb373 := Nat.ne_of_lt (Nat.lt_of_lt_of_le f370.lt gz373)
      have gne373_b7 : b7 ≠ gb373 := Nat.ne_of_lt (Nat.lt_of_lt_of_le f369.lt gz373)
      have gne373_b14 : b14 ≠ gb373 := Nat.ne_of_lt (Nat.lt_of_lt_of_le f371.lt gz373)
      have gne373_b22 : b22 ≠ gb373 := Nat.ne_of_lt (Nat.lt_of_lt_of_le f365.lt gz373)
      have gne373_gb331 : gb331 ≠ gb373 := Nat.ne_of_lt (Nat.lt_of_lt_of_le f372.lt gz373)
      have f376 := (f370.keep kp373)
      have f377 := (f369.keep kp373)
      have f378 := (f371.keep kp373)
      have f379 := (f365.keep kp373)
      have f380 := (f372.keep kp373)
      obtain ⟨T381, h381, X381, e381, E381, A381, D381, U381, st381⟩ := newO X373 hx hZ hown (ow88 hw) (ow89 hw) (ow90 hw) rfl (g := (mkF m 128 #[.val (.int x0), .val (.int x1), .val (.int (2 : Int32)), .val (.int (1 : Int32)), .val (.ref b1), .val (.ref b7), .val (.ref b14), .val (.ref b22), .unset, .unset] [])) rfl (hb hby at_128) (by decide) (by decide)
      obtain ⟨b381, g381⟩ : ∃ z, z = T373.heap.size := ⟨_, rfl⟩
      rw [← g381] at A381 D381 U381 st381
      have gn381 : n0 ≤ b381 := Nat.le_trans (own_sz Ol375) (Nat.le_of_eq g381.symm)
      have neb1_381 : b1 ≠ b381 := Nat.ne_of_lt (Nat.lt_of_lt_of_le f376.lt (Nat.le_of_eq g381.symm))
      have neb7_381 : b7 ≠ b381 := Nat.ne_of_lt (Nat.lt_of_lt_of_le f377.lt (Nat.le_of_eq g381.symm))
      have neb14_381 : b14 ≠ b381 := Nat.ne_of_lt (Nat.lt_of_lt_of_le f378.lt (Nat.le_of_eq g381.symm))
      have neb22_381 : b22 ≠ b381 := Nat.ne_of_lt (Nat.lt_of_lt_of_le f379.lt (Nat.le_of_eq g381.symm))
      have negb331_381 : gb331 ≠ b381 := Nat.ne_of_lt (Nat.lt_of_lt_of_le f380.lt (Nat.le_of_eq g381.symm))
      have negb373_381 : gb373 ≠ b381 := Nat.ne_of_lt (Nat.lt_of_lt_of_le gE373.lt (Nat.le_of_eq g381.symm))
      have Ol382 := Ol375.ext E381
      have FserviceExceeded_381 : Fld Z h381 b381 "com/example/atropos/atropos/analysis/Admission" "serviceExceeded" "Ljava/util/List;" .null := D381 (Or.inr (ow188 hw)) (ty := (.object "java/util/List")) (by decide)
      have FrateExceeded_381 : Fld Z h381 b381 "com/example/atropos/atropos/analysis/Admission" "rateExceeded" "Ljava/util/List;" .null := D381 (Or.inr (ow190 hw)) (ty := (.object "java/util/List")) (by decide)
      have f383 := (f378.ext E381)
      have f384 := ((gs338.keep kp373 (ninS neb14_22 nin0)).ext E381)
      have f385 := ((ge338.keep kp373 (ninS neb14_22 nin0)).ext E381)
      have f386 := ((ga338.keep kp373 (ninS (Ne.symm gne331_b22) nin0)).ext E381)
      have f387 := (f380.ext E381)
      have f388 := (f376.ext E381)
      have f389 := (f379.ext E381)
      have f390 := (gs373.ext E381)
      have f391 := (ge373.ext E381)
      have f392 := (ga373.ext E381)
      have f393 := (gE373.ext E381)
      have f394 := (f377.ext E381)
      obtain ⟨_, _, ⟨T395, L395, k395, n395⟩, -, X395, ⟨Lc395, hQ395, l395, y395, z395⟩, st395⟩ := X381.specialBack hx (y := (⟨"com/example/atropos/atropos/analysis/Admission", "<init>", "(Ljava/util/List;Ljava/util/List;)V"⟩ : MethodName)) rfl hown (mvT hZ (ow91 hw)) (mvT hZ (ow92 hw)) (mvT hZ (ow93 hw)) (by decide) (backOf (W := 1) (rmadm l Z a0 hw [] b381 b14 b22 (0 : Int32) (0 : Int32) el tel kel em mr h381 n0 Ol382 A381 FserviceExceeded_381 FrateExceeded_381 gn381 (Or.inr (Or.inr (Or.inl ⟨b1, _, gb331, _, rfl, f383, f384, f385, f386, f387, f388, (ow205 hw)⟩))) (Or.inr (Or.inl ⟨b7, _, gb373, _, rfl, f389, f390, f391, f392, f393, f394, (ow87 hw)⟩)) Sel Sem hM Eel Fel Ael) hZ (ow93 hw) (ow90 hw) (by decide) (by decide)) (g := (mkF m 136 #[.val (.int x0), .val (.int x1), .val (.int (2 : Int32)), .val (.int (1 : Int32)), .val (.ref b1), .val (.ref b7), .val (.ref b14), .val (.ref b22), .unset, .unset] [(.ref b22), (.ref b14), (.ref b381), (.ref b381)])) rfl (by rw [hml]; rfl) (Steps.refl _) (a := b381) (argsL := [(.ref b14), (.ref b22)]) (rest := [(.ref b381)]) (lenOf pd17 rfl) rfl (by show 2 * 0 + _ ≤ _; exact Nat.le_of_eq rfl) (hb hby at_136) (fun _ _ => ⟨rfl, e381, (by decide : 7 + 6 ≤ _), (by decide : 34 + 16 ≤ _)⟩)
      dsimp only [Pt.U, Pt.locs, Pt.cells, Pt.slots] at X395 l395 y395 z395 st395 hQ395
      subst l395 y395 z395
      obtain ⟨r1395, r2395, rfl, Nq395, kp395, f1395, f2395, e1395, e2395⟩ := hQ395
      have N396 := Fr.app N374 Nq395
      have Ol397 := Ol382.keep kp395 (allS gn381 all0)
      have f399 := (A381.keep kp395)
      obtain ⟨cq398, kq398, q398a, q398b, q398c⟩ := isOf hZ rfl f399
      obtain ⟨_, _, ⟨T398, L398, k398, n398⟩, -, X398, ⟨Lc398, hQ398, l398, y398, z398⟩, st398⟩ := X395.virtualBack hx (y := (⟨"com/example/atropos/atropos/analysis/Admission", "admits", "()Z"⟩ : MethodName)) (z := (⟨"com/example/atropos/atropos/analysis/Admission", "admits", "()Z"⟩ : MethodName)) hown (mvT hZ (ow191 hw)) (mvT hZ (ow192 hw)) (notFace_of_selects (args := #[]) (mvT hZ (ow194 hw))) (mvT hZ (ow194 hw)) (mvT hZ (ow193 hw)) (by decide) (backOf (W := 0) (rmadt l Z a0 hw [] b381 r1395 r2395 (0 : Int32) (0 : Int32) T395.heap n0 Ol397 f1395 f2395 e1395 e2395) hZ (ow195 hw) (ow90 hw) (by decide) (by decide)) q398a q398c (g := (mkF m 164 #[.val (.int x0), .val (.int x1), .val (.int (2 : Int32)), .val (.int (1 : Int32)), .val (.ref b1), .val (.ref b7), .val (.ref b14), .val (.ref b22), .val (.ref b381), .val (.int (0 : Int32))] [(.ref b381)])) rfl (by rw [hml]; rfl) (Steps.refl _) (argsL := []) (rest := []) (lenOf pd12 rfl) rfl (by show 2 * 0 + _ ≤ _; exact Nat.le_of_eq rfl) (hb hby at_164) (fun _ _ => ⟨rfl, rfl, (by decide : 13 + 0 ≤ _), (by decide : 50 + 0 ≤ _)⟩)
      dsimp only [Pt.U, Pt.locs, Pt.cells, Pt.slots] at X398 l398 y398 z398 st398 hQ398
      subst l398 y398 z398
      obtain ⟨rfl, Nq398, eq398⟩ := hQ398
      have N400 := Fr.app N396 Nq398
      obtain ⟨fs, hretL, hrun, hended, hW, hsame⟩ := X398.leave (v := some (.int (1 : Int32))) (fun h => by rw [Bd.returns] at h; cases h)
      refine ⟨_, _, pre364 _ ?_, hrun, hended, _, _, rfl, ?_, ⟨_, rfl⟩, hW, hsame.mono (by decide) (by decide)⟩
      · refine XS.iloadN X338.here hx rfl (hb hby at_89) rfl ?_
        show Steps p.tables e below (T338.setTop (mkF m 90 #[.val (.int x0), .val (.int x1), .val (.int (2 : Int32)), .val (.int (1 : Int32)), .val (.ref b1), .val (.ref b7), .val (.ref b14), .val (.ref b22), .unset, .unset] [(.int (1 : Int32))])) _
        refine XS.iconst X338.here hx rfl (hb hby at_90) ?_
        show Steps p.tables e below (T338.setTop (mkF m 91 #[.val (.int x0), .val (.int x1), .val (.int (2 : Int32)), .val (.int (1 : Int32)), .val (.ref b1), .val (.ref b7), .val (.ref b14), .val (.ref b22), .unset, .unset] [(.int (1 : Int32)), (.int (1 : Int32))])) _
        refine XS.icmpNo X338.here hx rfl (hb hby at_91) rfl (flt (by decide : ¬ ((1 : Int32) < (1 : Int32)))).1 ?_
        show Steps p.tables e below (T338.setTop (mkF m 94 #[.val (.int x0), .val (.int x1), .val (.int (2 : Int32)), .val (.int (1 : Int32)), .val (.ref b1), .val (.ref b7), .val (.ref b14), .val (.ref b22), .unset, .unset] [])) _
        refine XS.aload X338.here hx rfl (hb hby at_94) rfl rfl ?_
        show Steps p.tables e below (T338.setTop (mkF m 96 #[.val (.int x0), .val (.int x1), .val (.int (2 : Int32)), .val (.int (1 : Int32)), .val (.ref b1), .val (.ref b7), .val (.ref b14), .val (.ref b22), .unset, .unset] [(.ref b22)])) _
        refine XS.aload X338.here hx rfl (hb hby at_96) rfl rfl ?_
        show Steps p.tables e below (T338.setTop (mkF m 98 #[.val (.int x0), .val (.int x1), .val (.int (2 : Int32)), .val (.int (1 : Int32)), .val (.ref b1), .val (.ref b7), .val (.ref b14), .val (.ref b22), .unset, .unset] [(.ref b7), (.ref b22)])) _
        refine st373.trans ?_
        show Steps p.tables e below (T373.setTop (mkF m 101 #[.val (.int x0), .val (.int x1), .val (.int (2 : Int32)), .val (.int (1 : Int32)), .val (.ref b1), .val (.ref b7), .val (.ref b14), .val (.ref b22), .unset, .unset] [(.int (1 : Int32))])) _
        refine XS.pop X373.here hx rfl (hb hby at_101) rfl rfl ?_
        show Steps p.tables e below (T373.setTop (mkF m 102 #[.val (.int x0), .val (.int x1), .val (.int (2 : Int32)), .val (.int (1 : Int32)), .val (.ref b1), .val (.ref b7), .val (.ref b14), .val (.ref b22), .unset, .unset] [])) _
        refine XS.iloadN X373.here hx rfl (hb hby at_102) rfl ?_
        show Steps p.tables e below (T373.setTop (mkF m 103 #[.val (.int x0), .val (.int x1), .val (.int (2 : Int32)), .val (.int (1 : Int32)), .val (.ref b1), .val (.ref b7), .val (.ref b14), .val (.ref b22), .unset, .unset] [(.int (1 : Int32))])) _
        refine XS.iconst X373.here hx rfl (hb hby at_103) ?_
        show Steps p.tables e below (T373.setTop (mkF m 104 #[.val (.int x0), .val (.int x1), .val (.int (2 : Int32)), .val (.int (1 : Int32)), .val (.ref b1), .val (.ref b7), .val (.ref b14), .val (.ref b22), .unset, .unset] [(.int (2 : Int32)), (.int (1 : Int32))])) _
        refine XS.icmpYes X373.here hx rfl (pc0 := 104) (pc' := 115) rfl (hb hby at_104) rfl (tlt (by decide : (1 : Int32) < (2 : Int32))).1 (by decide) (by decide) ?_
        show Steps p.tables e below (T373.setTop (mkF m 115 #[.val (.int x0), .val (.int x1), .val (.int (2 : Int32)), .val (.int (1 : Int32)), .val (.ref b1), .val (.ref b7), .val (.ref b14), .val (.ref b22), .unset, .unset] [])) _
        refine XS.iloadN X373.here hx rfl (hb hby at_115) rfl ?_
        show Steps p.tables e below (T373.setTop (mkF m 116 #[.val (.int x0), .val (.int x1), .val (.int (2 : Int32)), .val (.int (1 : Int32)), .val (.ref b1), .val (.ref b7), .val (.ref b14), .val (.ref b22), .unset, .unset] [(.int (1 : Int32))])) _
        refine XS.iconst X373.here hx rfl (hb hby at_116) ?_
        show Steps p.tables e below (T373.setTop (mkF m 117 #[.val (.int x0), .val (.int x1), .val (.int (2 : Int32)), .val (.int (1 : Int32)), .val (.ref b1), .val (.ref b7), .val (.ref b14), .val (.ref b22), .unset, .unset] [(.int (3 : Int32)), (.int (1 : Int32))])) _
        refine XS.icmpYes X373.here hx rfl (pc0 := 117) (pc' := 128) rfl (hb hby at_117) rfl (tlt (by decide : (1 : Int32) < (3 : Int32))).1 (by decide) (by decide) ?_
        show Steps p.tables e below (T373.setTop (mkF m 128 #[.val (.int x0), .val (.int x1), .val (.int (2 : Int32)), .val (.int (1 : Int32)), .val (.ref b1), .val (.ref b7), .val (.ref b14), .val (.ref b22), .unset, .unset] [])) _
        refine st381 _ ?_
        show Steps p.tables e below (T381.setTop (mkF m 131 #[.val (.int x0), .val (.int x1), .val (.int (2 : Int32)), .val (.int (1 : Int32)), .val (.ref b1), .val (.ref b7), .val (.ref b14), .val (.ref b22), .unset, .unset] [(.ref b381)])) _
        refine XS.dup X381.here hx rfl (hb hby at_131) rfl rfl ?_
        show Steps p.tables e below (T381.setTop (mkF m 132 #[.val (.int x0), .val (.int x1), .val (.int (2 : Int32)), .val (.int (1 : Int32)), .val (.ref b1), .val (.ref b7), .val (.ref b14), .val (.ref b22), .unset, .unset] [(.ref b381), (.ref b381)])) _
        refine XS.aload X381.here hx rfl (hb hby at_132) rfl rfl ?_
        show Steps p.tables e below (T381.setTop (mkF m 134 #[.val (.int x0), .val (.int x1), .val (.int (2 : Int32)), .val (.int (1 : Int32)), .val (.ref b1), .val (.ref b7), .val (.ref b14), .val (.ref b22), .unset, .unset] [(.ref b14), (.ref b381), (.ref b381)])) _
        refine XS.aload X381.here hx rfl (hb hby at_134) rfl rfl ?_
        show Steps p.tables e below (T381.setTop (mkF m 136 #[.val (.int x0), .val (.int x1), .val (.int (2 : Int32)), .val (.int (1 : Int32)), .val (.ref b1), .val (.ref b7), .val (.ref b14), .val (.ref b22), .unset, .unset] [(.ref b22), (.ref b14), (.ref b381), (.ref b381)])) _
        refine st395.trans ?_
        show Steps p.tables e below (T395.setTop (mkF m 139 #[.val (.int x0), .val (.int x1), .val (.int (2 : Int32)), .val (.int (1 : Int32)), .val (.ref b1), .val (.ref b7), .val (.ref b14), .val (.ref b22), .unset, .unset] [(.ref b381)])) _
        refine XS.astore X395.here hx rfl (hb hby at_139) rfl rfl (l' := #[.val (.int x0), .val (.int x1), .val (.int (2 : Int32)), .val (.int (1 : Int32)), .val (.ref b1), .val (.ref b7), .val (.ref b14), .val (.ref b22), .val (.ref b381), .unset]) rfl ?_
        show Steps p.tables e below (T395.setTop (mkF m 141 #[.val (.int x0), .val (.int x1), .val (.int (2 : Int32)), .val (.int (1 : Int32)), .val (.ref b1), .val (.ref b7), .val (.ref b14), .val (.ref b22), .val (.ref b381), .unset] [])) _
        refine XS.iloadN X395.here hx rfl (hb hby at_141) rfl ?_
        show Steps p.tables e below (T395.setTop (mkF m 142 #[.val (.int x0), .val (.int x1), .val (.int (2 : Int32)), .val (.int (1 : Int32)), .val (.ref b1), .val (.ref b7), .val (.ref b14), .val (.ref b22), .val (.ref b381), .unset] [(.int (2 : Int32))])) _
        refine XS.ifYes X395.here hx rfl (pc0 := 142) (pc' := 159) rfl (hb hby at_142) rfl ((if0 _ _).trans (feq (by decide : ¬ ((2 : Int32) = (0 : Int32)))).2) (by decide) (by decide) ?_
        show Steps p.tables e below (T395.setTop (mkF m 159 #[.val (.int x0), .val (.int x1), .val (.int (2 : Int32)), .val (.int (1 : Int32)), .val (.ref b1), .val (.ref b7), .val (.ref b14), .val (.ref b22), .val (.ref b381), .unset] [])) _
        refine XS.iconst X395.here hx rfl (hb hby at_159) ?_
        show Steps p.tables e below (T395.setTop (mkF m 160 #[.val (.int x0), .val (.int x1), .val (.int (2 : Int32)), .val (.int (1 : Int32)), .val (.ref b1), .val (.ref b7), .val (.ref b14), .val (.ref b22), .val (.ref b381), .unset] [(.int (0 : Int32))])) _
        refine XS.istore X395.here hx rfl (hb hby at_160) rfl (l' := #[.val (.int x0), .val (.int x1), .val (.int (2 : Int32)), .val (.int (1 : Int32)), .val (.ref b1), .val (.ref b7), .val (.ref b14), .val (.ref b22), .val (.ref b381), .val (.int (0 : Int32))]) rfl ?_
        show Steps p.tables e below (T395.setTop (mkF m 162 #[.val (.int x0), .val (.int x1), .val (.int (2 : Int32)), .val (.int (1 : Int32)), .val (.ref b1), .val (.ref b7), .val (.ref b14), .val (.ref b22), .val (.ref b381), .val (.int (0 : Int32))] [])) _
        refine XS.aload X395.here hx rfl (hb hby at_162) rfl rfl ?_
        show Steps p.tables e below (T395.setTop (mkF m 164 #[.val (.int x0), .val (.int x1), .val (.int (2 : Int32)), .val (.int (1 : Int32)), .val (.ref b1), .val (.ref b7), .val (.ref b14), .val (.ref b22), .val (.ref b381), .val (.int (0 : Int32))] [(.ref b381)])) _
        refine st398.trans ?_
        show Steps p.tables e below (T398.setTop (mkF m 167 #[.val (.int x0), .val (.int x1), .val (.int (2 : Int32)), .val (.int (1 : Int32)), .val (.ref b1), .val (.ref b7), .val (.ref b14), .val (.ref b22), .val (.ref b381), .val (.int (0 : Int32))] [(.int (adm (0 : Int32) (0 : Int32)))])) _
        refine XS.iload X398.here hx rfl (hb hby at_167) rfl ?_
        show Steps p.tables e below (T398.setTop (mkF m 169 #[.val (.int x0), .val (.int x1), .val (.int (2 : Int32)), .val (.int (1 : Int32)), .val (.ref b1), .val (.ref b7), .val (.ref b14), .val (.ref b22), .val (.ref b381), .val (.int (0 : Int32))] [(.int (0 : Int32)), (.int (adm (0 : Int32) (0 : Int32)))])) _
        refine XS.icmpNo X398.here hx rfl (hb hby at_169) rfl (teq (by decide)).2 ?_
        show Steps p.tables e below (T398.setTop (mkF m 172 #[.val (.int x0), .val (.int x1), .val (.int (2 : Int32)), .val (.int (1 : Int32)), .val (.ref b1), .val (.ref b7), .val (.ref b14), .val (.ref b22), .val (.ref b381), .val (.int (0 : Int32))] [])) _
        refine XS.iconst X398.here hx rfl (hb hby at_172) ?_
        show Steps p.tables e below (T398.setTop (mkF m 173 #[.val (.int x0), .val (.int x1), .val (.int (2 : Int32)), .val (.int (1 : Int32)), .val (.ref b1), .val (.ref b7), .val (.ref b14), .val (.ref b22), .val (.ref b381), .val (.int (0 : Int32))] [(.int (1 : Int32))])) _
        refine XS.goto X398.here hx rfl (pc0 := 173) (pc' := 177) rfl (hb hby at_173) (by decide) (by decide) ?_
        show Steps p.tables e below (T398.setTop (mkF m 177 #[.val (.int x0), .val (.int x1), .val (.int (2 : Int32)), .val (.int (1 : Int32)), .val (.ref b1), .val (.ref b7), .val (.ref b14), .val (.ref b22), .val (.ref b381), .val (.int (0 : Int32))] [(.int (1 : Int32))])) _
        exact retOut X398 hx Bd.returns rfl (Or.inl ⟨rfl, Or.inr (Or.inl rfl), _, rfl⟩) (hb hby at_177) hretL
      · show Q_rm0 Z x0 x1 de kde el tel kel em mr h0 n0 _ T398.heap _
        rw [eq398]
        exact ⟨rfl, N400⟩
    · have pre401 : ∀ tgt, Steps p.tables e below (T338.setTop (mkF m 89 #[.val (.int x0), .val (.int x1), .val (.int (2 : Int32)), .val (.int (2 : Int32)), .val (.ref b1), .val (.ref b7), .val (.ref b14), .val (.ref b22), .unset, .unset] [])) tgt → Steps p.tables e below (s₁.setTop (entryFrame m #[(.int x0), (.int x1)] maxLocals)) tgt := by
        have q := pre341
        rw [hqx1] at q
        exact q
      have f402 := (f337.keep kp338)
      have f403 := ((gm24.keep kp331 (ninS (Ne.symm neb14_22) nin0)).keep kp338 (ninS (Ne.symm neb14_22) (ninS gne331_b22 nin0)))
      have f404 := ((gs24.keep kp331 (ninS (Ne.symm neb14_22) nin0)).keep kp338 (ninS (Ne.symm neb14_22) (ninS gne331_b22 nin0)))
      have f405 := ((ge24.keep kp331 (ninS (Ne.symm neb14_22) nin0)).keep kp338 (ninS (Ne.symm neb14_22) (ninS gne331_b22 nin0)))
      have f406 := (f336.keep kp338)
      have f407 := (f335.keep kp338)
      have f408 := (f334.keep kp338)
      have f409 := (gE331.keep kp338)
      obtain ⟨cq410, kq410, q410a, q410b, q410c⟩ := isOf hZ rfl f402
      obtain ⟨_, _, ⟨T410, L410, k410, n410⟩, -, X410, ⟨Lc410, hQ410, l410, y410, z410⟩, st410⟩ := X338.virtualBack hx (y := (⟨"java/util/ArrayList", "add", "(Ljava/lang/Object;)Z"⟩ : MethodName)) (z := (⟨"java/util/ArrayList", "add", "(Ljava/lang/Object;)Z"⟩ : MethodName)) hown (mvT hZ (ow57 hw)) (mvT hZ (ow58 hw)) (notFace_of_selects (args := #[]) (mvT hZ (ow60 hw))) (mvT hZ (ow60 hw)) (mvT hZ (ow59 hw)) (by decide) (backOf (W := 0) (rmad0 l Z a0 hw [] b22 b7 de kde (0 : Int32) "com/example/atropos/atropos/ops/Excess$Rate" T338.heap n0 Ol340 Sde Ade f402 f403 f404 f405 gn22 f406 (ow87 hw)) hZ (ow61 hw) (ow35 hw) (by decide) (by decide)) q410a q410c (g := (mkF m 98 #[.val (.int x0), .val (.int x1), .val (.int (2 : Int32)), .val (.int (2 : Int32)), .val (.ref b1), .val (.ref b7), .val (.ref b14), .val (.ref b22), .unset, .unset] [(.ref b7), (.ref b22)])) rfl (by rw [hml]; rfl) (Steps.refl _) (argsL := [(.ref b7)]) (rest := []) (lenOf pd18 rfl) rfl (by show 2 * 0 + _ ≤ _; exact Nat.le_of_eq rfl) (hb hby at_98) (fun _ _ => ⟨rfl, rfl, (by decide : 5 + 1 ≤ _), (by decide : 22 + 10 ≤ _)⟩)
      dsimp only [Pt.U, Pt.locs, Pt.cells, Pt.slots] at X410 l410 y410 z410 st410 hQ410
      subst l410 y410 z410
      obtain ⟨gb410, gk410, rfl, Nq410, kp410, gg410, gz410, go410, gE410, gm410, gs410, ge410, ga410⟩ := hQ410
      have N411 := Fr.app N339 Nq410
      have Ol412 := Ol340.keep kp410 (allS gn22 all0)
      have gne410_b1 : b1 ≠ gb410 := Nat.ne_of_lt (Nat.lt_of_lt_of_le f407.lt gz410)
      have gne410_b7 : b7 ≠ gb410 := Nat.ne_of_lt (Nat.lt_of_lt_of_le f406.lt gz410)
      have gne410_b14 : b14 ≠ gb410 := Nat.ne_of_lt (Nat.lt_of_lt_of_le f408.lt gz410)
      have gne410_b22 : b22 ≠ gb410 := Nat.ne_of_lt (Nat.lt_of_lt_of_le f402.lt gz410)
      have gne410_gb331 : gb331 ≠ gb410 := Nat.ne_of_lt (Nat.lt_of_lt_of_le f409.lt gz410)
      have f413 := (f402.keep kp410)
      have f414 := (f406.keep kp410)
      have f415 := (f407.keep kp410)
      have f416 := (f408.keep kp410)
      have f417 := (f409.keep kp410)
      obtain ⟨cq418, kq418, q418a, q418b, q418c⟩ := isOf hZ rfl f413
      obtain ⟨_, _, ⟨T418, L418, k418, n418⟩, -, X418, ⟨Lc418, hQ418, l418, y418, z418⟩, st418⟩ := X410.virtualBack hx (y := (⟨"java/util/ArrayList", "add", "(Ljava/lang/Object;)Z"⟩ : MethodName)) (z := (⟨"java/util/ArrayList", "add", "(Ljava/lang/Object;)Z"⟩ : MethodName)) hown (mvT hZ (ow57 hw)) (mvT hZ (ow58 hw)) (notFace_of_selects (args := #[]) (mvT hZ (ow60 hw))) (mvT hZ (ow60 hw)) (mvT hZ (ow59 hw)) (by decide) (backOf (W := 0) (rmad1 l Z a0 hw [] b22 b7 ((0 : Int32) + (1 : Int32)) gb410 gk410 "com/example/atropos/atropos/ops/Excess$Rate" T410.heap n0 Ol412 ga410 go410 gg410 gne410_b22 f413 gm410 gs410 ge410 gn22 f414 (ow87 hw)) hZ (ow61 hw) (ow35 hw) (by decide) (by decide)) q418a q418c (g := (mkF m 111 #[.val (.int x0), .val (.int x1), .val (.int (2 : Int32)), .val (.int (2 : Int32)), .val (.ref b1), .val (.ref b7), .val (.ref b14), .val (.ref b22), .unset, .unset] [(.ref b7), (.ref b22)])) rfl (by rw [hml]; rfl) (Steps.refl _) (argsL := [(.ref b7)]) (rest := []) (lenOf pd18 rfl) rfl (by show 2 * 0 + _ ≤ _; exact Nat.le_of_eq rfl) (hb hby at_111) (fun _ _ => ⟨rfl, rfl, (by decide : 6 + 0 ≤ _), (by decide : 32 + 0 ≤ _)⟩)
      dsimp only [Pt.U, Pt.locs, Pt.cells, Pt.slots] at X418 l418 y418 z418 st418 hQ418
      subst l418 y418 z418
      obtain ⟨rfl, Nq418, kp418, gm418, gs418, ge418, ga418⟩ := hQ418
      have N419 := Fr.app N411 Nq418
      have Ol420 := Ol412.keep kp418 (allS gn22 (allS gg410 all0))
      have f421 := (f415.keep kp418)
      have f422 := (f414.keep kp418)
      have f423 := (f416.keep kp418)
      have f424 := (f413.keep kp418)
      have f425 := (f417.keep kp418)
      have f426 := (gE410.keep kp418)
      obtain ⟨T427, h427, X427, e427, E427, A427, D427, U427, st427⟩ := newO X418 hx hZ hown (ow88 hw) (ow89 hw) (ow90 hw) rfl (g := (mkF m 128 #[.val (.int x0), .val (.int x1), .val (.int (2 : Int32)), .val (.int (2 : Int32)), .val (.ref b1), .val (.ref b7), .val (.ref b14), .val (.ref b22), .unset, .unset] [])) rfl (hb hby at_128) (by decide) (by decide)
      obtain ⟨b427, g427⟩ : ∃ z, z = T418.heap.size := ⟨_, rfl⟩
      rw [← g427] at A427 D427 U427 st427
      have gn427 : n0 ≤ b427 := Nat.le_trans (own_sz Ol420) (Nat.le_of_eq g427.symm)
      have neb1_427 : b1 ≠ b427 := Nat.ne_of_lt (Nat.lt_of_lt_of_le f421.lt (Nat.le_of_eq g427.symm))
      have neb7_427 : b7 ≠ b427 := Nat.ne_of_lt (Nat.lt_of_lt_of_le f422.lt (Nat.le_of_eq g427.symm))
      have neb14_427 : b14 ≠ b427 := Nat.ne_of_lt (Nat.lt_of_lt_of_le f423.lt (Nat.le_of_eq g427.symm))
      have neb22_427 : b22 ≠ b427 := Nat.ne_of_lt (Nat.lt_of_lt_of_le f424.lt (Nat.le_of_eq g427.symm))
      have negb331_427 : gb331 ≠ b427 := Nat.ne_of_lt (Nat.lt_of_lt_of_le f425.lt (Nat.le_of_eq g427.symm))
      have negb410_427 : gb410 ≠ b427 := Nat.ne_of_lt (Nat.lt_of_lt_of_le f426.lt (Nat.le_of_eq g427.symm))
      have Ol428 := Ol420.ext E427
      have FserviceExceeded_427 : Fld Z h427 b427 "com/example/atropos/atropos/analysis/Admission" "serviceExceeded" "Ljava/util/List;" .null := D427 (Or.inr (ow188 hw)) (ty := (.object "java/util/List")) (by decide)
      have FrateExceeded_427 : Fld Z h427 b427 "com/example/atropos/atropos/analysis/Admission" "rateExceeded" "Ljava/util/List;" .null := D427 (Or.inr (ow190 hw)) (ty := (.object "java/util/List")) (by decide)
      have f429 := (f423.ext E427)
      have f430 := (((gs338.keep kp410 (ninS neb14_22 nin0)).keep kp418 (ninS neb14_22 (ninS gne410_b14 nin0))).ext E427)
      have f431 := (((ge338.keep kp410 (ninS neb14_22 nin0)).keep kp418 (ninS neb14_22 (ninS gne410_b14 nin0))).ext E427)
      have f432 := (((ga338.keep kp410 (ninS (Ne.symm gne331_b22) nin0)).keep kp418 (ninS (Ne.symm gne331_b22) (ninS gne410_gb331 nin0))).ext E427)
      have f433 := (f425.ext E427)
      have f434 := (f421.ext E427)
      have f435 := (f424.ext E427)
      have f436 := (gs418.ext E427)
      have f437 := (ge418.ext E427)
      have f438 := (ga418.ext E427)
      have f439 := (f426.ext E427)
      have f440 := (f422.ext E427)
      obtain ⟨_, _, ⟨T441, L441, k441, n441⟩, -, X441, ⟨Lc441, hQ441, l441, y441, z441⟩, st441⟩ := X427.specialBack hx (y := (⟨"com/example/atropos/atropos/analysis/Admission", "<init>", "(Ljava/util/List;Ljava/util/List;)V"⟩ : MethodName)) rfl hown (mvT hZ (ow91 hw)) (mvT hZ (ow92 hw)) (mvT hZ (ow93 hw)) (by decide) (backOf (W := 1) (rmadm l Z a0 hw [] b427 b14 b22 (0 : Int32) (0 : Int32) el tel kel em mr h427 n0 Ol428 A427 FserviceExceeded_427 FrateExceeded_427 gn427 (Or.inr (Or.inr (Or.inl ⟨b1, _, gb331, _, rfl, f429, f430, f431, f432, f433, f434, (ow205 hw)⟩))) (Or.inr (Or.inr (Or.inl ⟨b7, _, gb410, _, rfl, f435, f436, f437, f438, f439, f440, (ow87 hw)⟩))) Sel Sem hM Eel Fel Ael) hZ (ow93 hw) (ow90 hw) (by decide) (by decide)) (g := (mkF m 136 #[.val (.int x0), .val (.int x1), .val (.int (2 : Int32)), .val (.int (2 : Int32)), .val (.ref b1), .val (.ref b7), .val (.ref b14), .val (.ref b22), .unset, .unset] [(.ref b22), (.ref b14), (.ref b427), (.ref b427)])) rfl (by rw [hml]; rfl) (Steps.refl _) (a := b427) (argsL := [(.ref b14), (.ref b22)]) (rest := [(.ref b427)]) (lenOf pd17 rfl) rfl (by show 2 * 0 + _ ≤ _; exact Nat.le_of_eq rfl) (hb hby at_136) (fun _ _ => ⟨rfl, e427, (by decide : 7 + 6 ≤ _), (by decide : 34 + 16 ≤ _)⟩)
      dsimp only [Pt.U, Pt.locs, Pt.cells, Pt.slots] at X441 l441 y441 z441 st441 hQ441
      subst l441 y441 z441
      obtain ⟨r1441, r2441, rfl, Nq441, kp441, f1441, f2441, e1441, e2441⟩ := hQ441
      have N442 := Fr.app N419 Nq441
      have Ol443 := Ol428.keep kp441 (allS gn427 all0)
      have f445 := (A427.keep kp441)
      obtain ⟨cq444, kq444, q444a, q444b, q444c⟩ := isOf hZ rfl f445
      obtain ⟨_, _, ⟨T444, L444, k444, n444⟩, -, X444, ⟨Lc444, hQ444, l444, y444, z444⟩, st444⟩ := X441.virtualBack hx (y := (⟨"com/example/atropos/atropos/analysis/Admission", "admits", "()Z"⟩ : MethodName)) (z := (⟨"com/example/atropos/atropos/analysis/Admission", "admits", "()Z"⟩ : MethodName)) hown (mvT hZ (ow191 hw)) (mvT hZ (ow192 hw)) (notFace_of_selects (args := #[]) (mvT hZ (ow194 hw))) (mvT hZ (ow194 hw)) (mvT hZ (ow193 hw)) (by decide) (backOf (W := 0) (rmadt l Z a0 hw [] b427 r1441 r2441 (0 : Int32) (0 : Int32) T441.heap n0 Ol443 f1441 f2441 e1441 e2441) hZ (ow195 hw) (ow90 hw) (by decide) (by decide)) q444a q444c (g := (mkF m 164 #[.val (.int x0), .val (.int x1), .val (.int (2 : Int32)), .val (.int (2 : Int32)), .val (.ref b1), .val (.ref b7), .val (.ref b14), .val (.ref b22), .val (.ref b427), .val (.int (0 : Int32))] [(.ref b427)])) rfl (by rw [hml]; rfl) (Steps.refl _) (argsL := []) (rest := []) (lenOf pd12 rfl) rfl (by show 2 * 0 + _ ≤ _; exact Nat.le_of_eq rfl) (hb hby at_164) (fun _ _ => ⟨rfl, rfl, (by decide : 13 + 0 ≤ _), (by decide : 50 + 0 ≤ _)⟩)
      dsimp only [Pt.U, Pt.locs, Pt.cells, Pt.slots] at X444 l444 y444 z444 st444 hQ444
      subst l444 y444 z444
      obtain ⟨rfl, Nq444, eq444⟩ := hQ444
      have N446 := Fr.app N442 Nq444
      obtain ⟨fs, hretL, hrun, hended, hW, hsame⟩ := X444.leave (v := some (.int (1 : Int32))) (fun h => by rw [Bd.returns] at h; cases h)
      refine ⟨_, _, pre401 _ ?_, hrun, hended, _, _, rfl, ?_, ⟨_, rfl⟩, hW, hsame.mono (by decide) (by decide)⟩
      · refine XS.iloadN X338.here hx rfl (hb hby at_89) rfl ?_
        show Steps p.tables e below (T338.setTop (mkF m 90 #[.val (.int x0), .val (.int x1), .val (.int (2 : Int32)), .val (.int (2 : Int32)), .val (.ref b1), .val (.ref b7), .val (.ref b14), .val (.ref b22), .unset, .unset] [(.int (2 : Int32))])) _
        refine XS.iconst X338.here hx rfl (hb hby at_90) ?_
        show Steps p.tables e below (T338.setTop (mkF m 91 #[.val (.int x0), .val (.int x1), .val (.int (2 : Int32)), .val (.int (2 : Int32)), .val (.ref b1), .val (.ref b7), .val (.ref b14), .val (.ref b22), .unset, .unset] [(.int (1 : Int32)), (.int (2 : Int32))])) _
        refine XS.icmpNo X338.here hx rfl (hb hby at_91) rfl (flt (by decide : ¬ ((2 : Int32) < (1 : Int32)))).1 ?_
        show Steps p.tables e below (T338.setTop (mkF m 94 #[.val (.int x0), .val (.int x1), .val (.int (2 : Int32)), .val (.int (2 : Int32)), .val (.ref b1), .val (.ref b7), .val (.ref b14), .val (.ref b22), .unset, .unset] [])) _
        refine XS.aload X338.here hx rfl (hb hby at_94) rfl rfl ?_
        show Steps p.tables e below (T338.setTop (mkF m 96 #[.val (.int x0), .val (.int x1), .val (.int (2 : Int32)), .val (.int (2 : Int32)), .val (.ref b1), .val (.ref b7), .val (.ref b14), .val (.ref b22), .unset, .unset] [(.ref b22)])) _
        refine XS.aload X338.here hx rfl (hb hby at_96) rfl rfl ?_
        show Steps p.tables e below (T338.setTop (mkF m 98 #[.val (.int x0), .val (.int x1), .val (.int (2 : Int32)), .val (.int (2 : Int32)), .val (.ref b1), .val (.ref b7), .val (.ref b14), .val (.ref b22), .unset, .unset] [(.ref b7), (.ref b22)])) _
        refine st410.trans ?_
        show Steps p.tables e below (T410.setTop (mkF m 101 #[.val (.int x0), .val (.int x1), .val (.int (2 : Int32)), .val (.int (2 : Int32)), .val (.ref b1), .val (.ref b7), .val (.ref b14), .val (.ref b22), .unset, .unset] [(.int (1 : Int32))])) _
        refine XS.pop X410.here hx rfl (hb hby at_101) rfl rfl ?_
        show Steps p.tables e below (T410.setTop (mkF m 102 #[.val (.int x0), .val (.int x1), .val (.int (2 : Int32)), .val (.int (2 : Int32)), .val (.ref b1), .val (.ref b7), .val (.ref b14), .val (.ref b22), .unset, .unset] [])) _
        refine XS.iloadN X410.here hx rfl (hb hby at_102) rfl ?_
        show Steps p.tables e below (T410.setTop (mkF m 103 #[.val (.int x0), .val (.int x1), .val (.int (2 : Int32)), .val (.int (2 : Int32)), .val (.ref b1), .val (.ref b7), .val (.ref b14), .val (.ref b22), .unset, .unset] [(.int (2 : Int32))])) _
        refine XS.iconst X410.here hx rfl (hb hby at_103) ?_
        show Steps p.tables e below (T410.setTop (mkF m 104 #[.val (.int x0), .val (.int x1), .val (.int (2 : Int32)), .val (.int (2 : Int32)), .val (.ref b1), .val (.ref b7), .val (.ref b14), .val (.ref b22), .unset, .unset] [(.int (2 : Int32)), (.int (2 : Int32))])) _
        refine XS.icmpNo X410.here hx rfl (hb hby at_104) rfl (flt (by decide : ¬ ((2 : Int32) < (2 : Int32)))).1 ?_
        show Steps p.tables e below (T410.setTop (mkF m 107 #[.val (.int x0), .val (.int x1), .val (.int (2 : Int32)), .val (.int (2 : Int32)), .val (.ref b1), .val (.ref b7), .val (.ref b14), .val (.ref b22), .unset, .unset] [])) _
        refine XS.aload X410.here hx rfl (hb hby at_107) rfl rfl ?_
        show Steps p.tables e below (T410.setTop (mkF m 109 #[.val (.int x0), .val (.int x1), .val (.int (2 : Int32)), .val (.int (2 : Int32)), .val (.ref b1), .val (.ref b7), .val (.ref b14), .val (.ref b22), .unset, .unset] [(.ref b22)])) _
        refine XS.aload X410.here hx rfl (hb hby at_109) rfl rfl ?_
        show Steps p.tables e below (T410.setTop (mkF m 111 #[.val (.int x0), .val (.int x1), .val (.int (2 : Int32)), .val (.int (2 : Int32)), .val (.ref b1), .val (.ref b7), .val (.ref b14), .val (.ref b22), .unset, .unset] [(.ref b7), (.ref b22)])) _
        refine st418.trans ?_
        show Steps p.tables e below (T418.setTop (mkF m 114 #[.val (.int x0), .val (.int x1), .val (.int (2 : Int32)), .val (.int (2 : Int32)), .val (.ref b1), .val (.ref b7), .val (.ref b14), .val (.ref b22), .unset, .unset] [(.int (1 : Int32))])) _
        refine XS.pop X418.here hx rfl (hb hby at_114) rfl rfl ?_
        show Steps p.tables e below (T418.setTop (mkF m 115 #[.val (.int x0), .val (.int x1), .val (.int (2 : Int32)), .val (.int (2 : Int32)), .val (.ref b1), .val (.ref b7), .val (.ref b14), .val (.ref b22), .unset, .unset] [])) _
        refine XS.iloadN X418.here hx rfl (hb hby at_115) rfl ?_
        show Steps p.tables e below (T418.setTop (mkF m 116 #[.val (.int x0), .val (.int x1), .val (.int (2 : Int32)), .val (.int (2 : Int32)), .val (.ref b1), .val (.ref b7), .val (.ref b14), .val (.ref b22), .unset, .unset] [(.int (2 : Int32))])) _
        refine XS.iconst X418.here hx rfl (hb hby at_116) ?_
        show Steps p.tables e below (T418.setTop (mkF m 117 #[.val (.int x0), .val (.int x1), .val (.int (2 : Int32)), .val (.int (2 : Int32)), .val (.ref b1), .val (.ref b7), .val (.ref b14), .val (.ref b22), .unset, .unset] [(.int (3 : Int32)), (.int (2 : Int32))])) _
        refine XS.icmpYes X418.here hx rfl (pc0 := 117) (pc' := 128) rfl (hb hby at_117) rfl (tlt (by decide : (2 : Int32) < (3 : Int32))).1 (by decide) (by decide) ?_
        show Steps p.tables e below (T418.setTop (mkF m 128 #[.val (.int x0), .val (.int x1), .val (.int (2 : Int32)), .val (.int (2 : Int32)), .val (.ref b1), .val (.ref b7), .val (.ref b14), .val (.ref b22), .unset, .unset] [])) _
        refine st427 _ ?_
        show Steps p.tables e below (T427.setTop (mkF m 131 #[.val (.int x0), .val (.int x1), .val (.int (2 : Int32)), .val (.int (2 : Int32)), .val (.ref b1), .val (.ref b7), .val (.ref b14), .val (.ref b22), .unset, .unset] [(.ref b427)])) _
        refine XS.dup X427.here hx rfl (hb hby at_131) rfl rfl ?_
        show Steps p.tables e below (T427.setTop (mkF m 132 #[.val (.int x0), .val (.int x1), .val (.int (2 : Int32)), .val (.int (2 : Int32)), .val (.ref b1), .val (.ref b7), .val (.ref b14), .val (.ref b22), .unset, .unset] [(.ref b427), (.ref b427)])) _
        refine XS.aload X427.here hx rfl (hb hby at_132) rfl rfl ?_
        show Steps p.tables e below (T427.setTop (mkF m 134 #[.val (.int x0), .val (.int x1), .val (.int (2 : Int32)), .val (.int (2 : Int32)), .val (.ref b1), .val (.ref b7), .val (.ref b14), .val (.ref b22), .unset, .unset] [(.ref b14), (.ref b427), (.ref b427)])) _
        refine XS.aload X427.here hx rfl (hb hby at_134) rfl rfl ?_
        show Steps p.tables e below (T427.setTop (mkF m 136 #[.val (.int x0), .val (.int x1), .val (.int (2 : Int32)), .val (.int (2 : Int32)), .val (.ref b1), .val (.ref b7), .val (.ref b14), .val (.ref b22), .unset, .unset] [(.ref b22), (.ref b14), (.ref b427), (.ref b427)])) _
        refine st441.trans ?_
        show Steps p.tables e below (T441.setTop (mkF m 139 #[.val (.int x0), .val (.int x1), .val (.int (2 : Int32)), .val (.int (2 : Int32)), .val (.ref b1), .val (.ref b7), .val (.ref b14), .val (.ref b22), .unset, .unset] [(.ref b427)])) _
        refine XS.astore X441.here hx rfl (hb hby at_139) rfl rfl (l' := #[.val (.int x0), .val (.int x1), .val (.int (2 : Int32)), .val (.int (2 : Int32)), .val (.ref b1), .val (.ref b7), .val (.ref b14), .val (.ref b22), .val (.ref b427), .unset]) rfl ?_
        show Steps p.tables e below (T441.setTop (mkF m 141 #[.val (.int x0), .val (.int x1), .val (.int (2 : Int32)), .val (.int (2 : Int32)), .val (.ref b1), .val (.ref b7), .val (.ref b14), .val (.ref b22), .val (.ref b427), .unset] [])) _
        refine XS.iloadN X441.here hx rfl (hb hby at_141) rfl ?_
        show Steps p.tables e below (T441.setTop (mkF m 142 #[.val (.int x0), .val (.int x1), .val (.int (2 : Int32)), .val (.int (2 : Int32)), .val (.ref b1), .val (.ref b7), .val (.ref b14), .val (.ref b22), .val (.ref b427), .unset] [(.int (2 : Int32))])) _
        refine XS.ifYes X441.here hx rfl (pc0 := 142) (pc' := 159) rfl (hb hby at_142) rfl ((if0 _ _).trans (feq (by decide : ¬ ((2 : Int32) = (0 : Int32)))).2) (by decide) (by decide) ?_
        show Steps p.tables e below (T441.setTop (mkF m 159 #[.val (.int x0), .val (.int x1), .val (.int (2 : Int32)), .val (.int (2 : Int32)), .val (.ref b1), .val (.ref b7), .val (.ref b14), .val (.ref b22), .val (.ref b427), .unset] [])) _
        refine XS.iconst X441.here hx rfl (hb hby at_159) ?_
        show Steps p.tables e below (T441.setTop (mkF m 160 #[.val (.int x0), .val (.int x1), .val (.int (2 : Int32)), .val (.int (2 : Int32)), .val (.ref b1), .val (.ref b7), .val (.ref b14), .val (.ref b22), .val (.ref b427), .unset] [(.int (0 : Int32))])) _
        refine XS.istore X441.here hx rfl (hb hby at_160) rfl (l' := #[.val (.int x0), .val (.int x1), .val (.int (2 : Int32)), .val (.int (2 : Int32)), .val (.ref b1), .val (.ref b7), .val (.ref b14), .val (.ref b22), .val (.ref b427), .val (.int (0 : Int32))]) rfl ?_
        show Steps p.tables e below (T441.setTop (mkF m 162 #[.val (.int x0), .val (.int x1), .val (.int (2 : Int32)), .val (.int (2 : Int32)), .val (.ref b1), .val (.ref b7), .val (.ref b14), .val (.ref b22), .val (.ref b427), .val (.int (0 : Int32))] [])) _
        refine XS.aload X441.here hx rfl (hb hby at_162) rfl rfl ?_
        show Steps p.tables e below (T441.setTop (mkF m 164 #[.val (.int x0), .val (.int x1), .val (.int (2 : Int32)), .val (.int (2 : Int32)), .val (.ref b1), .val (.ref b7), .val (.ref b14), .val (.ref b22), .val (.ref b427), .val (.int (0 : Int32))] [(.ref b427)])) _
        refine st444.trans ?_
        show Steps p.tables e below (T444.setTop (mkF m 167 #[.val (.int x0), .val (.int x1), .val (.int (2 : Int32)), .val (.int (2 : Int32)), .val (.ref b1), .val (.ref b7), .val (.ref b14), .val (.ref b22), .val (.ref b427), .val (.int (0 : Int32))] [(.int (adm (0 : Int32) (0 : Int32)))])) _
        refine XS.iload X444.here hx rfl (hb hby at_167) rfl ?_
        show Steps p.tables e below (T444.setTop (mkF m 169 #[.val (.int x0), .val (.int x1), .val (.int (2 : Int32)), .val (.int (2 : Int32)), .val (.ref b1), .val (.ref b7), .val (.ref b14), .val (.ref b22), .val (.ref b427), .val (.int (0 : Int32))] [(.int (0 : Int32)), (.int (adm (0 : Int32) (0 : Int32)))])) _
        refine XS.icmpNo X444.here hx rfl (hb hby at_169) rfl (teq (by decide)).2 ?_
        show Steps p.tables e below (T444.setTop (mkF m 172 #[.val (.int x0), .val (.int x1), .val (.int (2 : Int32)), .val (.int (2 : Int32)), .val (.ref b1), .val (.ref b7), .val (.ref b14), .val (.ref b22), .val (.ref b427), .val (.int (0 : Int32))] [])) _
        refine XS.iconst X444.here hx rfl (hb hby at_172) ?_
        show Steps p.tables e below (T444.setTop (mkF m 173 #[.val (.int x0), .val (.int x1), .val (.int (2 : Int32)), .val (.int (2 : Int32)), .val (.ref b1), .val (.ref b7), .val (.ref b14), .val (.ref b22), .val (.ref b427), .val (.int (0 : Int32))] [(.int (1 : Int32))])) _
        refine XS.goto X444.here hx rfl (pc0 := 173) (pc' := 177) rfl (hb hby at_173) (by decide) (by decide) ?_
        show Steps p.tables e below (T444.setTop (mkF m 177 #[.val (.int x0), .val (.int x1), .val (.int (2 : Int32)), .val (.int (2 : Int32)), .val (.ref b1), .val (.ref b7), .val (.ref b14), .val (.ref b22), .val (.ref b427), .val (.int (0 : Int32))] [(.int (1 : Int32))])) _
        exact retOut X444 hx Bd.returns rfl (Or.inl ⟨rfl, Or.inr (Or.inl rfl), _, rfl⟩) (hb hby at_177) hretL
      · show Q_rm0 Z x0 x1 de kde el tel kel em mr h0 n0 _ T444.heap _
        rw [eq444]
        exact ⟨rfl, N446⟩
    · have pre447 : ∀ tgt, Steps p.tables e below (T338.setTop (mkF m 89 #[.val (.int x0), .val (.int x1), .val (.int (2 : Int32)), .val (.int (3 : Int32)), .val (.ref b1), .val (.ref b7), .val (.ref b14), .val (.ref b22), .unset, .unset] [])) tgt → Steps p.tables e below (s₁.setTop (entryFrame m #[(.int x0), (.int x1)] maxLocals)) tgt := by
        have q := pre341
        rw [hqx1] at q
        exact q
      have f448 := (f337.keep kp338)
      have f449 := ((gm24.keep kp331 (ninS (Ne.symm neb14_22) nin0)).keep kp338 (ninS (Ne.symm neb14_22) (ninS gne331_b22 nin0)))
      have f450 := ((gs24.keep kp331 (ninS (Ne.symm neb14_22) nin0)).keep kp338 (ninS (Ne.symm neb14_22) (ninS gne331_b22 nin0)))
      have f451 := ((ge24.keep kp331 (ninS (Ne.symm neb14_22) nin0)).keep kp338 (ninS (Ne.symm neb14_22) (ninS gne331_b22 nin0)))
      have f452 := (f336.keep kp338)
      have f453 := (f335.keep kp338)
      have f454 := (f334.keep kp338)
      have f455 := (gE331.keep kp338)
      obtain ⟨cq456, kq456, q456a, q456b, q456c⟩ := isOf hZ rfl f448
      obtain ⟨_, _, ⟨T456, L456, k456, n456⟩, -, X456, ⟨Lc456, hQ456, l456, y456, z456⟩, st456⟩ := X338.virtualBack hx (y := (⟨"java/util/ArrayList", "add", "(Ljava/lang/Object;)Z"⟩ : MethodName)) (z := (⟨"java/util/ArrayList", "add", "(Ljava/lang/Object;)Z"⟩ : MethodName)) hown (mvT hZ (ow57 hw)) (mvT hZ (ow58 hw)) (notFace_of_selects (args := #[]) (mvT hZ (ow60 hw))) (mvT hZ (ow60 hw)) (mvT hZ (ow59 hw)) (by decide) (backOf (W := 0) (rmad0 l Z a0 hw [] b22 b7 de kde (0 : Int32) "com/example/atropos/atropos/ops/Excess$Rate" T338.heap n0 Ol340 Sde Ade f448 f449 f450 f451 gn22 f452 (ow87 hw)) hZ (ow61 hw) (ow35 hw) (by decide) (by decide)) q456a q456c (g := (mkF m 98 #[.val (.int x0), .val (.int x1), .val (.int (2 : Int32)), .val (.int (3 : Int32)), .val (.ref b1), .val (.ref b7), .val (.ref b14), .val (.ref b22), .unset, .unset] [(.ref b7), (.ref b22)])) rfl (by rw [hml]; rfl) (Steps.refl _) (argsL := [(.ref b7)]) (rest := []) (lenOf pd18 rfl) rfl (by show 2 * 0 + _ ≤ _; exact Nat.le_of_eq rfl) (hb hby at_98) (fun _ _ => ⟨rfl, rfl, (by decide : 5 + 1 ≤ _), (by decide : 22 + 10 ≤ _)⟩)
      dsimp only [Pt.U, Pt.locs, Pt.cells, Pt.slots] at X456 l456 y456 z456 st456 hQ456
      subst l456 y456 z456
      obtain ⟨gb456, gk456, rfl, Nq456, kp456, gg456, gz456, go456, gE456, gm456, gs456, ge456, ga456⟩ := hQ456
      have N457 := Fr.app N339 Nq456
      have Ol458 := Ol340.keep kp456 (allS gn22 all0)
      have gne456_b1 : b1 ≠ gb456 := Nat.ne_of_lt (Nat.lt_of_lt_of_le f453.lt gz456)
      have gne456_b7 : b7 ≠ gb456 := Nat.ne_of_lt (Nat.lt_of_lt_of_le f452.lt gz456)
      have gne456_b14 : b14 ≠ gb456 := Nat.ne_of_lt (Nat.lt_of_lt_of_le f454.lt gz456)
      have gne456_b22 : b22 ≠ gb456 := Nat.ne_of_lt (Nat.lt_of_lt_of_le f448.lt gz456)
      have gne456_gb331 : gb331 ≠ gb456 := Nat.ne_of_lt (Nat.lt_of_lt_of_le f455.lt gz456)
      have f459 := (f448.keep kp456)
      have f460 := (f452.keep kp456)
      have f461 := (f453.keep kp456)
      have f462 := (f454.keep kp456)
      have f463 := (f455.keep kp456)
      obtain ⟨cq464, kq464, q464a, q464b, q464c⟩ := isOf hZ rfl f459
      obtain ⟨_, _, ⟨T464, L464, k464, n464⟩, -, X464, ⟨Lc464, hQ464, l464, y464, z464⟩, st464⟩ := X456.virtualBack hx (y := (⟨"java/util/ArrayList", "add", "(Ljava/lang/Object;)Z"⟩ : MethodName)) (z := (⟨"java/util/ArrayList", "add", "(Ljava/lang/Object;)Z"⟩ : MethodName)) hown (mvT hZ (ow57 hw)) (mvT hZ (ow58 hw)) (notFace_of_selects (args := #[]) (mvT hZ (ow60 hw))) (mvT hZ (ow60 hw)) (mvT hZ (ow59 hw)) (by decide) (backOf (W := 0) (rmad1 l Z a0 hw [] b22 b7 ((0 : Int32) + (1 : Int32)) gb456 gk456 "com/example/atropos/atropos/ops/Excess$Rate" T456.heap n0 Ol458 ga456 go456 gg456 gne456_b22 f459 gm456 gs456 ge456 gn22 f460 (ow87 hw)) hZ (ow61 hw) (ow35 hw) (by decide) (by decide)) q464a q464c (g := (mkF m 111 #[.val (.int x0), .val (.int x1), .val (.int (2 : Int32)), .val (.int (3 : Int32)), .val (.ref b1), .val (.ref b7), .val (.ref b14), .val (.ref b22), .unset, .unset] [(.ref b7), (.ref b22)])) rfl (by rw [hml]; rfl) (Steps.refl _) (argsL := [(.ref b7)]) (rest := []) (lenOf pd18 rfl) rfl (by show 2 * 0 + _ ≤ _; exact Nat.le_of_eq rfl) (hb hby at_111) (fun _ _ => ⟨rfl, rfl, (by decide : 6 + 0 ≤ _), (by decide : 32 + 0 ≤ _)⟩)
      dsimp only [Pt.U, Pt.locs, Pt.cells, Pt.slots] at X464 l464 y464 z464 st464 hQ464
      subst l464 y464 z464
      obtain ⟨rfl, Nq464, kp464, gm464, gs464, ge464, ga464⟩ := hQ464
      have N465 := Fr.app N457 Nq464
      have Ol466 := Ol458.keep kp464 (allS gn22 (allS gg456 all0))
      have f467 := (f459.keep kp464)
      have f468 := (f460.keep kp464)
      have f469 := (f461.keep kp464)
      have f470 := (f462.keep kp464)
      have f471 := (f463.keep kp464)
      have f472 := (gE456.keep kp464)
      obtain ⟨cq473, kq473, q473a, q473b, q473c⟩ := isOf hZ rfl f467
      obtain ⟨_, _, ⟨T473, L473, k473, n473⟩, -, X473, ⟨Lc473, hQ473, l473, y473, z473⟩, st473⟩ := X464.virtualBack hx (y := (⟨"java/util/ArrayList", "add", "(Ljava/lang/Object;)Z"⟩ : MethodName)) (z := (⟨"java/util/ArrayList", "add", "(Ljava/lang/Object;)Z"⟩ : MethodName)) hown (mvT hZ (ow57 hw)) (mvT hZ (ow58 hw)) (notFace_of_selects (args := #[]) (mvT hZ (ow60 hw))) (mvT hZ (ow60 hw)) (mvT hZ (ow59 hw)) (by decide) (backOf (W := 0) (rmad2 l Z a0 hw [] b22 b7 (((0 : Int32) + (1 : Int32)) + (1 : Int32)) gb456 gk456 "com/example/atropos/atropos/ops/Excess$Rate" T464.heap n0 Ol466 ga464 go456 gg456 gne456_b22 f467 gm464 gs464 ge464 gn22 f468 (ow87 hw)) hZ (ow61 hw) (ow35 hw) (by decide) (by decide)) q473a q473c (g := (mkF m 124 #[.val (.int x0), .val (.int x1), .val (.int (2 : Int32)), .val (.int (3 : Int32)), .val (.ref b1), .val (.ref b7), .val (.ref b14), .val (.ref b22), .unset, .unset] [(.ref b7), (.ref b22)])) rfl (by rw [hml]; rfl) (Steps.refl _) (argsL := [(.ref b7)]) (rest := []) (lenOf pd18 rfl) rfl (by show 2 * 0 + _ ≤ _; exact Nat.le_of_eq rfl) (hb hby at_124) (fun _ _ => ⟨rfl, rfl, (by decide : 6 + 0 ≤ _), (by decide : 32 + 0 ≤ _)⟩)
      dsimp only [Pt.U, Pt.locs, Pt.cells, Pt.slots] at X473 l473 y473 z473 st473 hQ473
      subst l473 y473 z473
      obtain ⟨rfl, Nq473, kp473, gm473, gs473, ge473, ga473⟩ := hQ473
      have N474 := Fr.app N465 Nq473
      have Ol475 := Ol466.keep kp473 (allS gn22 (allS gg456 all0))
      have f476 := (f469.keep kp473)
      have f477 := (f468.keep kp473)
      have f478 := (f470.keep kp473)
      have f479 := (f467.keep kp473)
      have f480 := (f471.keep kp473)
      have f481 := (f472.keep kp473)
      obtain ⟨T482, h482, X482, e482, E482, A482, D482, U482, st482⟩ := newO X473 hx hZ hown (ow88 hw) (ow89 hw) (ow90 hw) rfl (g := (mkF m 128 #[.val (.int x0), .val (.int x1), .val (.int (2 : Int32)), .val (.int (3 : Int32)), .val (.ref b1), .val (.ref b7), .val (.ref b14), .val (.ref b22), .unset, .unset] [])) rfl (hb hby at_128) (by decide) (by decide)
      obtain ⟨b482, g482⟩ : ∃ z, z = T473.heap.size := ⟨_, rfl⟩
      rw [← g482] at A482 D482 U482 st482
      have gn482 : n0 ≤ b482 := Nat.le_trans (own_sz Ol475) (Nat.le_of_eq g482.symm)
      have neb1_482 : b1 ≠ b482 := Nat.ne_of_lt (Nat.lt_of_lt_of_le f476.lt (Nat.le_of_eq g482.symm))
      have neb7_482 : b7 ≠ b482 := Nat.ne_of_lt (Nat.lt_of_lt_of_le f477.lt (Nat.le_of_eq g482.symm))
      have neb14_482 : b14 ≠ b482 := Nat.ne_of_lt (Nat.lt_of_lt_of_le f478.lt (Nat.le_of_eq g482.symm))
      have neb22_482 : b22 ≠ b482 := Nat.ne_of_lt (Nat.lt_of_lt_of_le f479.lt (Nat.le_of_eq g482.symm))
      have negb331_482 : gb331 ≠ b482 := Nat.ne_of_lt (Nat.lt_of_lt_of_le f480.lt (Nat.le_of_eq g482.symm))
      have negb456_482 : gb456 ≠ b482 := Nat.ne_of_lt (Nat.lt_of_lt_of_le f481.lt (Nat.le_of_eq g482.symm))
      have Ol483 := Ol475.ext E482
      have FserviceExceeded_482 : Fld Z h482 b482 "com/example/atropos/atropos/analysis/Admission" "serviceExceeded" "Ljava/util/List;" .null := D482 (Or.inr (ow188 hw)) (ty := (.object "java/util/List")) (by decide)
      have FrateExceeded_482 : Fld Z h482 b482 "com/example/atropos/atropos/analysis/Admission" "rateExceeded" "Ljava/util/List;" .null := D482 (Or.inr (ow190 hw)) (ty := (.object "java/util/List")) (by decide)
      have f484 := (f478.ext E482)
      have f485 := ((((gs338.keep kp456 (ninS neb14_22 nin0)).keep kp464 (ninS neb14_22 (ninS gne456_b14 nin0))).keep kp473 (ninS neb14_22 (ninS gne456_b14 nin0))).ext E482)
      have f486 := ((((ge338.keep kp456 (ninS neb14_22 nin0)).keep kp464 (ninS neb14_22 (ninS gne456_b14 nin0))).keep kp473 (ninS neb14_22 (ninS gne456_b14 nin0))).ext E482)
      have f487 := ((((ga338.keep kp456 (ninS (Ne.symm gne331_b22) nin0)).keep kp464 (ninS (Ne.symm gne331_b22) (ninS gne456_gb331 nin0))).keep kp473 (ninS (Ne.symm gne331_b22) (ninS gne456_gb331 nin0))).ext E482)
      have f488 := (f480.ext E482)
      have f489 := (f476.ext E482)
      have f490 := (f479.ext E482)
      have f491 := (gs473.ext E482)
      have f492 := (ge473.ext E482)
      have f493 := (ga473.ext E482)
      have f494 := (f481.ext E482)
      have f495 := (f477.ext E482)
      obtain ⟨_, _, ⟨T496, L496, k496, n496⟩, -, X496, ⟨Lc496, hQ496, l496, y496, z496⟩, st496⟩ := X482.specialBack hx (y := (⟨"com/example/atropos/atropos/analysis/Admission", "<init>", "(Ljava/util/List;Ljava/util/List;)V"⟩ : MethodName)) rfl hown (mvT hZ (ow91 hw)) (mvT hZ (ow92 hw)) (mvT hZ (ow93 hw)) (by decide) (backOf (W := 1) (rmadm l Z a0 hw [] b482 b14 b22 (0 : Int32) (0 : Int32) el tel kel em mr h482 n0 Ol483 A482 FserviceExceeded_482 FrateExceeded_482 gn482 (Or.inr (Or.inr (Or.inl ⟨b1, _, gb331, _, rfl, f484, f485, f486, f487, f488, f489, (ow205 hw)⟩))) (Or.inr (Or.inr (Or.inr ⟨b7, _, gb456, _, rfl, f490, f491, f492, f493, f494, f495, (ow87 hw)⟩))) Sel Sem hM Eel Fel Ael) hZ (ow93 hw) (ow90 hw) (by decide) (by decide)) (g := (mkF m 136 #[.val (.int x0), .val (.int x1), .val (.int (2 : Int32)), .val (.int (3 : Int32)), .val (.ref b1), .val (.ref b7), .val (.ref b14), .val (.ref b22), .unset, .unset] [(.ref b22), (.ref b14), (.ref b482), (.ref b482)])) rfl (by rw [hml]; rfl) (Steps.refl _) (a := b482) (argsL := [(.ref b14), (.ref b22)]) (rest := [(.ref b482)]) (lenOf pd17 rfl) rfl (by show 2 * 0 + _ ≤ _; exact Nat.le_of_eq rfl) (hb hby at_136) (fun _ _ => ⟨rfl, e482, (by decide : 7 + 6 ≤ _), (by decide : 34 + 16 ≤ _)⟩)
      dsimp only [Pt.U, Pt.locs, Pt.cells, Pt.slots] at X496 l496 y496 z496 st496 hQ496
      subst l496 y496 z496
      obtain ⟨r1496, r2496, rfl, Nq496, kp496, f1496, f2496, e1496, e2496⟩ := hQ496
      have N497 := Fr.app N474 Nq496
      have Ol498 := Ol483.keep kp496 (allS gn482 all0)
      have f500 := (A482.keep kp496)
      obtain ⟨cq499, kq499, q499a, q499b, q499c⟩ := isOf hZ rfl f500
      obtain ⟨_, _, ⟨T499, L499, k499, n499⟩, -, X499, ⟨Lc499, hQ499, l499, y499, z499⟩, st499⟩ := X496.virtualBack hx (y := (⟨"com/example/atropos/atropos/analysis/Admission", "admits", "()Z"⟩ : MethodName)) (z := (⟨"com/example/atropos/atropos/analysis/Admission", "admits", "()Z"⟩ : MethodName)) hown (mvT hZ (ow191 hw)) (mvT hZ (ow192 hw)) (notFace_of_selects (args := #[]) (mvT hZ (ow194 hw))) (mvT hZ (ow194 hw)) (mvT hZ (ow193 hw)) (by decide) (backOf (W := 0) (rmadt l Z a0 hw [] b482 r1496 r2496 (0 : Int32) (0 : Int32) T496.heap n0 Ol498 f1496 f2496 e1496 e2496) hZ (ow195 hw) (ow90 hw) (by decide) (by decide)) q499a q499c (g := (mkF m 164 #[.val (.int x0), .val (.int x1), .val (.int (2 : Int32)), .val (.int (3 : Int32)), .val (.ref b1), .val (.ref b7), .val (.ref b14), .val (.ref b22), .val (.ref b482), .val (.int (0 : Int32))] [(.ref b482)])) rfl (by rw [hml]; rfl) (Steps.refl _) (argsL := []) (rest := []) (lenOf pd12 rfl) rfl (by show 2 * 0 + _ ≤ _; exact Nat.le_of_eq rfl) (hb hby at_164) (fun _ _ => ⟨rfl, rfl, (by decide : 13 + 0 ≤ _), (by decide : 50 + 0 ≤ _)⟩)
      dsimp only [Pt.U, Pt.locs, Pt.cells, Pt.slots] at X499 l499 y499 z499 st499 hQ499
      subst l499 y499 z499
      obtain ⟨rfl, Nq499, eq499⟩ := hQ499
      have N501 := Fr.app N497 Nq499
      obtain ⟨fs, hretL, hrun, hended, hW, hsame⟩ := X499.leave (v := some (.int (1 : Int32))) (fun h => by rw [Bd.returns] at h; cases h)
      refine ⟨_, _, pre447 _ ?_, hrun, hended, _, _, rfl, ?_, ⟨_, rfl⟩, hW, hsame.mono (by decide) (by decide)⟩
      · refine XS.iloadN X338.here hx rfl (hb hby at_89) rfl ?_
        show Steps p.tables e below (T338.setTop (mkF m 90 #[.val (.int x0), .val (.int x1), .val (.int (2 : Int32)), .val (.int (3 : Int32)), .val (.ref b1), .val (.ref b7), .val (.ref b14), .val (.ref b22), .unset, .unset] [(.int (3 : Int32))])) _
        refine XS.iconst X338.here hx rfl (hb hby at_90) ?_
        show Steps p.tables e below (T338.setTop (mkF m 91 #[.val (.int x0), .val (.int x1), .val (.int (2 : Int32)), .val (.int (3 : Int32)), .val (.ref b1), .val (.ref b7), .val (.ref b14), .val (.ref b22), .unset, .unset] [(.int (1 : Int32)), (.int (3 : Int32))])) _
        refine XS.icmpNo X338.here hx rfl (hb hby at_91) rfl (flt (by decide : ¬ ((3 : Int32) < (1 : Int32)))).1 ?_
        show Steps p.tables e below (T338.setTop (mkF m 94 #[.val (.int x0), .val (.int x1), .val (.int (2 : Int32)), .val (.int (3 : Int32)), .val (.ref b1), .val (.ref b7), .val (.ref b14), .val (.ref b22), .unset, .unset] [])) _
        refine XS.aload X338.here hx rfl (hb hby at_94) rfl rfl ?_
        show Steps p.tables e below (T338.setTop (mkF m 96 #[.val (.int x0), .val (.int x1), .val (.int (2 : Int32)), .val (.int (3 : Int32)), .val (.ref b1), .val (.ref b7), .val (.ref b14), .val (.ref b22), .unset, .unset] [(.ref b22)])) _
        refine XS.aload X338.here hx rfl (hb hby at_96) rfl rfl ?_
        show Steps p.tables e below (T338.setTop (mkF m 98 #[.val (.int x0), .val (.int x1), .val (.int (2 : Int32)), .val (.int (3 : Int32)), .val (.ref b1), .val (.ref b7), .val (.ref b14), .val (.ref b22), .unset, .unset] [(.ref b7), (.ref b22)])) _
        refine st456.trans ?_
        show Steps p.tables e below (T456.setTop (mkF m 101 #[.val (.int x0), .val (.int x1), .val (.int (2 : Int32)), .val (.int (3 : Int32)), .val (.ref b1), .val (.ref b7), .val (.ref b14), .val (.ref b22), .unset, .unset] [(.int (1 : Int32))])) _
        refine XS.pop X456.here hx rfl (hb hby at_101) rfl rfl ?_
        show Steps p.tables e below (T456.setTop (mkF m 102 #[.val (.int x0), .val (.int x1), .val (.int (2 : Int32)), .val (.int (3 : Int32)), .val (.ref b1), .val (.ref b7), .val (.ref b14), .val (.ref b22), .unset, .unset] [])) _
        refine XS.iloadN X456.here hx rfl (hb hby at_102) rfl ?_
        show Steps p.tables e below (T456.setTop (mkF m 103 #[.val (.int x0), .val (.int x1), .val (.int (2 : Int32)), .val (.int (3 : Int32)), .val (.ref b1), .val (.ref b7), .val (.ref b14), .val (.ref b22), .unset, .unset] [(.int (3 : Int32))])) _
        refine XS.iconst X456.here hx rfl (hb hby at_103) ?_
        show Steps p.tables e below (T456.setTop (mkF m 104 #[.val (.int x0), .val (.int x1), .val (.int (2 : Int32)), .val (.int (3 : Int32)), .val (.ref b1), .val (.ref b7), .val (.ref b14), .val (.ref b22), .unset, .unset] [(.int (2 : Int32)), (.int (3 : Int32))])) _
        refine XS.icmpNo X456.here hx rfl (hb hby at_104) rfl (flt (by decide : ¬ ((3 : Int32) < (2 : Int32)))).1 ?_
        show Steps p.tables e below (T456.setTop (mkF m 107 #[.val (.int x0), .val (.int x1), .val (.int (2 : Int32)), .val (.int (3 : Int32)), .val (.ref b1), .val (.ref b7), .val (.ref b14), .val (.ref b22), .unset, .unset] [])) _
        refine XS.aload X456.here hx rfl (hb hby at_107) rfl rfl ?_
        show Steps p.tables e below (T456.setTop (mkF m 109 #[.val (.int x0), .val (.int x1), .val (.int (2 : Int32)), .val (.int (3 : Int32)), .val (.ref b1), .val (.ref b7), .val (.ref b14), .val (.ref b22), .unset, .unset] [(.ref b22)])) _
        refine XS.aload X456.here hx rfl (hb hby at_109) rfl rfl ?_
        show Steps p.tables e below (T456.setTop (mkF m 111 #[.val (.int x0), .val (.int x1), .val (.int (2 : Int32)), .val (.int (3 : Int32)), .val (.ref b1), .val (.ref b7), .val (.ref b14), .val (.ref b22), .unset, .unset] [(.ref b7), (.ref b22)])) _
        refine st464.trans ?_
        show Steps p.tables e below (T464.setTop (mkF m 114 #[.val (.int x0), .val (.int x1), .val (.int (2 : Int32)), .val (.int (3 : Int32)), .val (.ref b1), .val (.ref b7), .val (.ref b14), .val (.ref b22), .unset, .unset] [(.int (1 : Int32))])) _
        refine XS.pop X464.here hx rfl (hb hby at_114) rfl rfl ?_
        show Steps p.tables e below (T464.setTop (mkF m 115 #[.val (.int x0), .val (.int x1), .val (.int (2 : Int32)), .val (.int (3 : Int32)), .val (.ref b1), .val (.ref b7), .val (.ref b14), .val (.ref b22), .unset, .unset] [])) _
        refine XS.iloadN X464.here hx rfl (hb hby at_115) rfl ?_
        show Steps p.tables e below (T464.setTop (mkF m 116 #[.val (.int x0), .val (.int x1), .val (.int (2 : Int32)), .val (.int (3 : Int32)), .val (.ref b1), .val (.ref b7), .val (.ref b14), .val (.ref b22), .unset, .unset] [(.int (3 : Int32))])) _
        refine XS.iconst X464.here hx rfl (hb hby at_116) ?_
        show Steps p.tables e below (T464.setTop (mkF m 117 #[.val (.int x0), .val (.int x1), .val (.int (2 : Int32)), .val (.int (3 : Int32)), .val (.ref b1), .val (.ref b7), .val (.ref b14), .val (.ref b22), .unset, .unset] [(.int (3 : Int32)), (.int (3 : Int32))])) _
        refine XS.icmpNo X464.here hx rfl (hb hby at_117) rfl (flt (by decide : ¬ ((3 : Int32) < (3 : Int32)))).1 ?_
        show Steps p.tables e below (T464.setTop (mkF m 120 #[.val (.int x0), .val (.int x1), .val (.int (2 : Int32)), .val (.int (3 : Int32)), .val (.ref b1), .val (.ref b7), .val (.ref b14), .val (.ref b22), .unset, .unset] [])) _
        refine XS.aload X464.here hx rfl (hb hby at_120) rfl rfl ?_
        show Steps p.tables e below (T464.setTop (mkF m 122 #[.val (.int x0), .val (.int x1), .val (.int (2 : Int32)), .val (.int (3 : Int32)), .val (.ref b1), .val (.ref b7), .val (.ref b14), .val (.ref b22), .unset, .unset] [(.ref b22)])) _
        refine XS.aload X464.here hx rfl (hb hby at_122) rfl rfl ?_
        show Steps p.tables e below (T464.setTop (mkF m 124 #[.val (.int x0), .val (.int x1), .val (.int (2 : Int32)), .val (.int (3 : Int32)), .val (.ref b1), .val (.ref b7), .val (.ref b14), .val (.ref b22), .unset, .unset] [(.ref b7), (.ref b22)])) _
        refine st473.trans ?_
        show Steps p.tables e below (T473.setTop (mkF m 127 #[.val (.int x0), .val (.int x1), .val (.int (2 : Int32)), .val (.int (3 : Int32)), .val (.ref b1), .val (.ref b7), .val (.ref b14), .val (.ref b22), .unset, .unset] [(.int (1 : Int32))])) _
        refine XS.pop X473.here hx rfl (hb hby at_127) rfl rfl ?_
        show Steps p.tables e below (T473.setTop (mkF m 128 #[.val (.int x0), .val (.int x1), .val (.int (2 : Int32)), .val (.int (3 : Int32)), .val (.ref b1), .val (.ref b7), .val (.ref b14), .val (.ref b22), .unset, .unset] [])) _
        refine st482 _ ?_
        show Steps p.tables e below (T482.setTop (mkF m 131 #[.val (.int x0), .val (.int x1), .val (.int (2 : Int32)), .val (.int (3 : Int32)), .val (.ref b1), .val (.ref b7), .val (.ref b14), .val (.ref b22), .unset, .unset] [(.ref b482)])) _
        refine XS.dup X482.here hx rfl (hb hby at_131) rfl rfl ?_
        show Steps p.tables e below (T482.setTop (mkF m 132 #[.val (.int x0), .val (.int x1), .val (.int (2 : Int32)), .val (.int (3 : Int32)), .val (.ref b1), .val (.ref b7), .val (.ref b14), .val (.ref b22), .unset, .unset] [(.ref b482), (.ref b482)])) _
        refine XS.aload X482.here hx rfl (hb hby at_132) rfl rfl ?_
        show Steps p.tables e below (T482.setTop (mkF m 134 #[.val (.int x0), .val (.int x1), .val (.int (2 : Int32)), .val (.int (3 : Int32)), .val (.ref b1), .val (.ref b7), .val (.ref b14), .val (.ref b22), .unset, .unset] [(.ref b14), (.ref b482), (.ref b482)])) _
        refine XS.aload X482.here hx rfl (hb hby at_134) rfl rfl ?_
        show Steps p.tables e below (T482.setTop (mkF m 136 #[.val (.int x0), .val (.int x1), .val (.int (2 : Int32)), .val (.int (3 : Int32)), .val (.ref b1), .val (.ref b7), .val (.ref b14), .val (.ref b22), .unset, .unset] [(.ref b22), (.ref b14), (.ref b482), (.ref b482)])) _
        refine st496.trans ?_
        show Steps p.tables e below (T496.setTop (mkF m 139 #[.val (.int x0), .val (.int x1), .val (.int (2 : Int32)), .val (.int (3 : Int32)), .val (.ref b1), .val (.ref b7), .val (.ref b14), .val (.ref b22), .unset, .unset] [(.ref b482)])) _
        refine XS.astore X496.here hx rfl (hb hby at_139) rfl rfl (l' := #[.val (.int x0), .val (.int x1), .val (.int (2 : Int32)), .val (.int (3 : Int32)), .val (.ref b1), .val (.ref b7), .val (.ref b14), .val (.ref b22), .val (.ref b482), .unset]) rfl ?_
        show Steps p.tables e below (T496.setTop (mkF m 141 #[.val (.int x0), .val (.int x1), .val (.int (2 : Int32)), .val (.int (3 : Int32)), .val (.ref b1), .val (.ref b7), .val (.ref b14), .val (.ref b22), .val (.ref b482), .unset] [])) _
        refine XS.iloadN X496.here hx rfl (hb hby at_141) rfl ?_
        show Steps p.tables e below (T496.setTop (mkF m 142 #[.val (.int x0), .val (.int x1), .val (.int (2 : Int32)), .val (.int (3 : Int32)), .val (.ref b1), .val (.ref b7), .val (.ref b14), .val (.ref b22), .val (.ref b482), .unset] [(.int (2 : Int32))])) _
        refine XS.ifYes X496.here hx rfl (pc0 := 142) (pc' := 159) rfl (hb hby at_142) rfl ((if0 _ _).trans (feq (by decide : ¬ ((2 : Int32) = (0 : Int32)))).2) (by decide) (by decide) ?_
        show Steps p.tables e below (T496.setTop (mkF m 159 #[.val (.int x0), .val (.int x1), .val (.int (2 : Int32)), .val (.int (3 : Int32)), .val (.ref b1), .val (.ref b7), .val (.ref b14), .val (.ref b22), .val (.ref b482), .unset] [])) _
        refine XS.iconst X496.here hx rfl (hb hby at_159) ?_
        show Steps p.tables e below (T496.setTop (mkF m 160 #[.val (.int x0), .val (.int x1), .val (.int (2 : Int32)), .val (.int (3 : Int32)), .val (.ref b1), .val (.ref b7), .val (.ref b14), .val (.ref b22), .val (.ref b482), .unset] [(.int (0 : Int32))])) _
        refine XS.istore X496.here hx rfl (hb hby at_160) rfl (l' := #[.val (.int x0), .val (.int x1), .val (.int (2 : Int32)), .val (.int (3 : Int32)), .val (.ref b1), .val (.ref b7), .val (.ref b14), .val (.ref b22), .val (.ref b482), .val (.int (0 : Int32))]) rfl ?_
        show Steps p.tables e below (T496.setTop (mkF m 162 #[.val (.int x0), .val (.int x1), .val (.int (2 : Int32)), .val (.int (3 : Int32)), .val (.ref b1), .val (.ref b7), .val (.ref b14), .val (.ref b22), .val (.ref b482), .val (.int (0 : Int32))] [])) _
        refine XS.aload X496.here hx rfl (hb hby at_162) rfl rfl ?_
        show Steps p.tables e below (T496.setTop (mkF m 164 #[.val (.int x0), .val (.int x1), .val (.int (2 : Int32)), .val (.int (3 : Int32)), .val (.ref b1), .val (.ref b7), .val (.ref b14), .val (.ref b22), .val (.ref b482), .val (.int (0 : Int32))] [(.ref b482)])) _
        refine st499.trans ?_
        show Steps p.tables e below (T499.setTop (mkF m 167 #[.val (.int x0), .val (.int x1), .val (.int (2 : Int32)), .val (.int (3 : Int32)), .val (.ref b1), .val (.ref b7), .val (.ref b14), .val (.ref b22), .val (.ref b482), .val (.int (0 : Int32))] [(.int (adm (0 : Int32) (0 : Int32)))])) _
        refine XS.iload X499.here hx rfl (hb hby at_167) rfl ?_
        show Steps p.tables e below (T499.setTop (mkF m 169 #[.val (.int x0), .val (.int x1), .val (.int (2 : Int32)), .val (.int (3 : Int32)), .val (.ref b1), .val (.ref b7), .val (.ref b14), .val (.ref b22), .val (.ref b482), .val (.int (0 : Int32))] [(.int (0 : Int32)), (.int (adm (0 : Int32) (0 : Int32)))])) _
        refine XS.icmpNo X499.here hx rfl (hb hby at_169) rfl (teq (by decide)).2 ?_
        show Steps p.tables e below (T499.setTop (mkF m 172 #[.val (.int x0), .val (.int x1), .val (.int (2 : Int32)), .val (.int (3 : Int32)), .val (.ref b1), .val (.ref b7), .val (.ref b14), .val (.ref b22), .val (.ref b482), .val (.int (0 : Int32))] [])) _
        refine XS.iconst X499.here hx rfl (hb hby at_172) ?_
        show Steps p.tables e below (T499.setTop (mkF m 173 #[.val (.int x0), .val (.int x1), .val (.int (2 : Int32)), .val (.int (3 : Int32)), .val (.ref b1), .val (.ref b7), .val (.ref b14), .val (.ref b22), .val (.ref b482), .val (.int (0 : Int32))] [(.int (1 : Int32))])) _
        refine XS.goto X499.here hx rfl (pc0 := 173) (pc' := 177) rfl (hb hby at_173) (by decide) (by decide) ?_
        show Steps p.tables e below (T499.setTop (mkF m 177 #[.val (.int x0), .val (.int x1), .val (.int (2 : Int32)), .val (.int (3 : Int32)), .val (.ref b1), .val (.ref b7), .val (.ref b14), .val (.ref b22), .val (.ref b482), .val (.int (0 : Int32))] [(.int (1 : Int32))])) _
        exact retOut X499 hx Bd.returns rfl (Or.inl ⟨rfl, Or.inr (Or.inl rfl), _, rfl⟩) (hb hby at_177) hretL
      · show Q_rm0 Z x0 x1 de kde el tel kel em mr h0 n0 _ T499.heap _
        rw [eq499]
        exact ⟨rfl, N501⟩
  · have pre502 : ∀ tgt, Steps p.tables e below (T24.setTop (mkF m 50 #[.val (.int x0), .val (.int x1), .val (.int (3 : Int32)), .val (.int (x1 &&& (3 : Int32))), .val (.ref b1), .val (.ref b7), .val (.ref b14), .val (.ref b22), .unset, .unset] [])) tgt → Steps p.tables e below (s₁.setTop (entryFrame m #[(.int x0), (.int x1)] maxLocals)) tgt := by
      have q := pre27
      rw [hqx0] at q
      exact q
    have f503 := ((f21.ext E22).keep kp24)
    have f504 := ((gm16.ext E22).keep kp24 (ninS neb14_22 nin0))
    have f505 := ((gs16.ext E22).keep kp24 (ninS neb14_22 nin0))
    have f506 := ((ge16.ext E22).keep kp24 (ninS neb14_22 nin0))
    have f507 := ((f19.ext E22).keep kp24)
    have f508 := ((f20.ext E22).keep kp24)
    have f509 := (A22.keep kp24)
    obtain ⟨cq510, kq510, q510a, q510b, q510c⟩ := isOf hZ rfl f503
    obtain ⟨_, _, ⟨T510, L510, k510, n510⟩, -, X510, ⟨Lc510, hQ510, l510, y510, z510⟩, st510⟩ := X24.virtualBack hx (y := (⟨"java/util/ArrayList", "add", "(Ljava/lang/Object;)Z"⟩ : MethodName)) (z := (⟨"java/util/ArrayList", "add", "(Ljava/lang/Object;)Z"⟩ : MethodName)) hown (mvT hZ (ow57 hw)) (mvT hZ (ow58 hw)) (notFace_of_selects (args := #[]) (mvT hZ (ow60 hw))) (mvT hZ (ow60 hw)) (mvT hZ (ow59 hw)) (by decide) (backOf (W := 0) (rmad0 l Z a0 hw [] b14 b1 de kde (0 : Int32) "com/example/atropos/atropos/ops/Excess$Span" T24.heap n0 Ol26 Sde Ade f503 f504 f505 f506 gn14 f507 (ow205 hw)) hZ (ow61 hw) (ow35 hw) (by decide) (by decide)) q510a q510c (g := (mkF m 59 #[.val (.int x0), .val (.int x1), .val (.int (3 : Int32)), .val (.int (x1 &&& (3 : Int32))), .val (.ref b1), .val (.ref b7), .val (.ref b14), .val (.ref b22), .unset, .unset] [(.ref b1), (.ref b14)])) rfl (by rw [hml]; rfl) (Steps.refl _) (argsL := [(.ref b1)]) (rest := []) (lenOf pd18 rfl) rfl (by show 2 * 0 + _ ≤ _; exact Nat.le_of_eq rfl) (hb hby at_59) (fun _ _ => ⟨rfl, rfl, (by decide : 4 + 1 ≤ _), (by decide : 12 + 10 ≤ _)⟩)
    dsimp only [Pt.U, Pt.locs, Pt.cells, Pt.slots] at X510 l510 y510 z510 st510 hQ510
    subst l510 y510 z510
    obtain ⟨gb510, gk510, rfl, Nq510, kp510, gg510, gz510, go510, gE510, gm510, gs510, ge510, ga510⟩ := hQ510
    have N511 := Fr.app N25 Nq510
    have Ol512 := Ol26.keep kp510 (allS gn14 all0)
    have gne510_b1 : b1 ≠ gb510 := Nat.ne_of_lt (Nat.lt_of_lt_of_le f507.lt gz510)
    have gne510_b7 : b7 ≠ gb510 := Nat.ne_of_lt (Nat.lt_of_lt_of_le f508.lt gz510)
    have gne510_b14 : b14 ≠ gb510 := Nat.ne_of_lt (Nat.lt_of_lt_of_le f503.lt gz510)
    have gne510_b22 : b22 ≠ gb510 := Nat.ne_of_lt (Nat.lt_of_lt_of_le f509.lt gz510)
    have f513 := (f503.keep kp510)
    have f514 := (f507.keep kp510)
    have f515 := (f508.keep kp510)
    have f516 := (f509.keep kp510)
    obtain ⟨cq517, kq517, q517a, q517b, q517c⟩ := isOf hZ rfl f513
    obtain ⟨_, _, ⟨T517, L517, k517, n517⟩, -, X517, ⟨Lc517, hQ517, l517, y517, z517⟩, st517⟩ := X510.virtualBack hx (y := (⟨"java/util/ArrayList", "add", "(Ljava/lang/Object;)Z"⟩ : MethodName)) (z := (⟨"java/util/ArrayList", "add", "(Ljava/lang/Object;)Z"⟩ : MethodName)) hown (mvT hZ (ow57 hw)) (mvT hZ (ow58 hw)) (notFace_of_selects (args := #[]) (mvT hZ (ow60 hw))) (mvT hZ (ow60 hw)) (mvT hZ (ow59 hw)) (by decide) (backOf (W := 0) (rmad1 l Z a0 hw [] b14 b1 ((0 : Int32) + (1 : Int32)) gb510 gk510 "com/example/atropos/atropos/ops/Excess$Span" T510.heap n0 Ol512 ga510 go510 gg510 gne510_b14 f513 gm510 gs510 ge510 gn14 f514 (ow205 hw)) hZ (ow61 hw) (ow35 hw) (by decide) (by decide)) q517a q517c (g := (mkF m 72 #[.val (.int x0), .val (.int x1), .val (.int (3 : Int32)), .val (.int (x1 &&& (3 : Int32))), .val (.ref b1), .val (.ref b7), .val (.ref b14), .val (.ref b22), .unset, .unset] [(.ref b1), (.ref b14)])) rfl (by rw [hml]; rfl) (Steps.refl _) (argsL := [(.ref b1)]) (rest := []) (lenOf pd18 rfl) rfl (by show 2 * 0 + _ ≤ _; exact Nat.le_of_eq rfl) (hb hby at_72) (fun _ _ => ⟨rfl, rfl, (by decide : 5 + 0 ≤ _), (by decide : 22 + 0 ≤ _)⟩)
    dsimp only [Pt.U, Pt.locs, Pt.cells, Pt.slots] at X517 l517 y517 z517 st517 hQ517
    subst l517 y517 z517
    obtain ⟨rfl, Nq517, kp517, gm517, gs517, ge517, ga517⟩ := hQ517
    have N518 := Fr.app N511 Nq517
    have Ol519 := Ol512.keep kp517 (allS gn14 (allS gg510 all0))
    have f520 := (f513.keep kp517)
    have f521 := (f514.keep kp517)
    have f522 := (f515.keep kp517)
    have f523 := (f516.keep kp517)
    have f524 := (gE510.keep kp517)
    obtain ⟨cq525, kq525, q525a, q525b, q525c⟩ := isOf hZ rfl f520
    obtain ⟨_, _, ⟨T525, L525, k525, n525⟩, -, X525, ⟨Lc525, hQ525, l525, y525, z525⟩, st525⟩ := X517.virtualBack hx (y := (⟨"java/util/ArrayList", "add", "(Ljava/lang/Object;)Z"⟩ : MethodName)) (z := (⟨"java/util/ArrayList", "add", "(Ljava/lang/Object;)Z"⟩ : MethodName)) hown (mvT hZ (ow57 hw)) (mvT hZ (ow58 hw)) (notFace_of_selects (args := #[]) (mvT hZ (ow60 hw))) (mvT hZ (ow60 hw)) (mvT hZ (ow59 hw)) (by decide) (backOf (W := 0) (rmad2 l Z a0 hw [] b14 b1 (((0 : Int32) + (1 : Int32)) + (1 : Int32)) gb510 gk510 "com/example/atropos/atropos/ops/Excess$Span" T517.heap n0 Ol519 ga517 go510 gg510 gne510_b14 f520 gm517 gs517 ge517 gn14 f521 (ow205 hw)) hZ (ow61 hw) (ow35 hw) (by decide) (by decide)) q525a q525c (g := (mkF m 85 #[.val (.int x0), .val (.int x1), .val (.int (3 : Int32)), .val (.int (x1 &&& (3 : Int32))), .val (.ref b1), .val (.ref b7), .val (.ref b14), .val (.ref b22), .unset, .unset] [(.ref b1), (.ref b14)])) rfl (by rw [hml]; rfl) (Steps.refl _) (argsL := [(.ref b1)]) (rest := []) (lenOf pd18 rfl) rfl (by show 2 * 0 + _ ≤ _; exact Nat.le_of_eq rfl) (hb hby at_85) (fun _ _ => ⟨rfl, rfl, (by decide : 5 + 0 ≤ _), (by decide : 22 + 0 ≤ _)⟩)
    dsimp only [Pt.U, Pt.locs, Pt.cells, Pt.slots] at X525 l525 y525 z525 st525 hQ525
    subst l525 y525 z525
    obtain ⟨rfl, Nq525, kp525, gm525, gs525, ge525, ga525⟩ := hQ525
    have N526 := Fr.app N518 Nq525
    have Ol527 := Ol519.keep kp525 (allS gn14 (allS gg510 all0))
    have pre528 : ∀ tgt, Steps p.tables e below (T525.setTop (mkF m 89 #[.val (.int x0), .val (.int x1), .val (.int (3 : Int32)), .val (.int (x1 &&& (3 : Int32))), .val (.ref b1), .val (.ref b7), .val (.ref b14), .val (.ref b22), .unset, .unset] [])) tgt → Steps p.tables e below (s₁.setTop (entryFrame m #[(.int x0), (.int x1)] maxLocals)) tgt := by
      intro tgt kgo
      refine pre502 _ ?_
      refine XS.iloadN X24.here hx rfl (hb hby at_50) rfl ?_
      show Steps p.tables e below (T24.setTop (mkF m 51 #[.val (.int x0), .val (.int x1), .val (.int (3 : Int32)), .val (.int (x1 &&& (3 : Int32))), .val (.ref b1), .val (.ref b7), .val (.ref b14), .val (.ref b22), .unset, .unset] [(.int (3 : Int32))])) _
      refine XS.iconst X24.here hx rfl (hb hby at_51) ?_
      show Steps p.tables e below (T24.setTop (mkF m 52 #[.val (.int x0), .val (.int x1), .val (.int (3 : Int32)), .val (.int (x1 &&& (3 : Int32))), .val (.ref b1), .val (.ref b7), .val (.ref b14), .val (.ref b22), .unset, .unset] [(.int (1 : Int32)), (.int (3 : Int32))])) _
      refine XS.icmpNo X24.here hx rfl (hb hby at_52) rfl (flt (by decide : ¬ ((3 : Int32) < (1 : Int32)))).1 ?_
      show Steps p.tables e below (T24.setTop (mkF m 55 #[.val (.int x0), .val (.int x1), .val (.int (3 : Int32)), .val (.int (x1 &&& (3 : Int32))), .val (.ref b1), .val (.ref b7), .val (.ref b14), .val (.ref b22), .unset, .unset] [])) _
      refine XS.aload X24.here hx rfl (hb hby at_55) rfl rfl ?_
      show Steps p.tables e below (T24.setTop (mkF m 57 #[.val (.int x0), .val (.int x1), .val (.int (3 : Int32)), .val (.int (x1 &&& (3 : Int32))), .val (.ref b1), .val (.ref b7), .val (.ref b14), .val (.ref b22), .unset, .unset] [(.ref b14)])) _
      refine XS.aload X24.here hx rfl (hb hby at_57) rfl rfl ?_
      show Steps p.tables e below (T24.setTop (mkF m 59 #[.val (.int x0), .val (.int x1), .val (.int (3 : Int32)), .val (.int (x1 &&& (3 : Int32))), .val (.ref b1), .val (.ref b7), .val (.ref b14), .val (.ref b22), .unset, .unset] [(.ref b1), (.ref b14)])) _
      refine st510.trans ?_
      show Steps p.tables e below (T510.setTop (mkF m 62 #[.val (.int x0), .val (.int x1), .val (.int (3 : Int32)), .val (.int (x1 &&& (3 : Int32))), .val (.ref b1), .val (.ref b7), .val (.ref b14), .val (.ref b22), .unset, .unset] [(.int (1 : Int32))])) _
      refine XS.pop X510.here hx rfl (hb hby at_62) rfl rfl ?_
      show Steps p.tables e below (T510.setTop (mkF m 63 #[.val (.int x0), .val (.int x1), .val (.int (3 : Int32)), .val (.int (x1 &&& (3 : Int32))), .val (.ref b1), .val (.ref b7), .val (.ref b14), .val (.ref b22), .unset, .unset] [])) _
      refine XS.iloadN X510.here hx rfl (hb hby at_63) rfl ?_
      show Steps p.tables e below (T510.setTop (mkF m 64 #[.val (.int x0), .val (.int x1), .val (.int (3 : Int32)), .val (.int (x1 &&& (3 : Int32))), .val (.ref b1), .val (.ref b7), .val (.ref b14), .val (.ref b22), .unset, .unset] [(.int (3 : Int32))])) _
      refine XS.iconst X510.here hx rfl (hb hby at_64) ?_
      show Steps p.tables e below (T510.setTop (mkF m 65 #[.val (.int x0), .val (.int x1), .val (.int (3 : Int32)), .val (.int (x1 &&& (3 : Int32))), .val (.ref b1), .val (.ref b7), .val (.ref b14), .val (.ref b22), .unset, .unset] [(.int (2 : Int32)), (.int (3 : Int32))])) _
      refine XS.icmpNo X510.here hx rfl (hb hby at_65) rfl (flt (by decide : ¬ ((3 : Int32) < (2 : Int32)))).1 ?_
      show Steps p.tables e below (T510.setTop (mkF m 68 #[.val (.int x0), .val (.int x1), .val (.int (3 : Int32)), .val (.int (x1 &&& (3 : Int32))), .val (.ref b1), .val (.ref b7), .val (.ref b14), .val (.ref b22), .unset, .unset] [])) _
      refine XS.aload X510.here hx rfl (hb hby at_68) rfl rfl ?_
      show Steps p.tables e below (T510.setTop (mkF m 70 #[.val (.int x0), .val (.int x1), .val (.int (3 : Int32)), .val (.int (x1 &&& (3 : Int32))), .val (.ref b1), .val (.ref b7), .val (.ref b14), .val (.ref b22), .unset, .unset] [(.ref b14)])) _
      refine XS.aload X510.here hx rfl (hb hby at_70) rfl rfl ?_
      show Steps p.tables e below (T510.setTop (mkF m 72 #[.val (.int x0), .val (.int x1), .val (.int (3 : Int32)), .val (.int (x1 &&& (3 : Int32))), .val (.ref b1), .val (.ref b7), .val (.ref b14), .val (.ref b22), .unset, .unset] [(.ref b1), (.ref b14)])) _
      refine st517.trans ?_
      show Steps p.tables e below (T517.setTop (mkF m 75 #[.val (.int x0), .val (.int x1), .val (.int (3 : Int32)), .val (.int (x1 &&& (3 : Int32))), .val (.ref b1), .val (.ref b7), .val (.ref b14), .val (.ref b22), .unset, .unset] [(.int (1 : Int32))])) _
      refine XS.pop X517.here hx rfl (hb hby at_75) rfl rfl ?_
      show Steps p.tables e below (T517.setTop (mkF m 76 #[.val (.int x0), .val (.int x1), .val (.int (3 : Int32)), .val (.int (x1 &&& (3 : Int32))), .val (.ref b1), .val (.ref b7), .val (.ref b14), .val (.ref b22), .unset, .unset] [])) _
      refine XS.iloadN X517.here hx rfl (hb hby at_76) rfl ?_
      show Steps p.tables e below (T517.setTop (mkF m 77 #[.val (.int x0), .val (.int x1), .val (.int (3 : Int32)), .val (.int (x1 &&& (3 : Int32))), .val (.ref b1), .val (.ref b7), .val (.ref b14), .val (.ref b22), .unset, .unset] [(.int (3 : Int32))])) _
      refine XS.iconst X517.here hx rfl (hb hby at_77) ?_
      show Steps p.tables e below (T517.setTop (mkF m 78 #[.val (.int x0), .val (.int x1), .val (.int (3 : Int32)), .val (.int (x1 &&& (3 : Int32))), .val (.ref b1), .val (.ref b7), .val (.ref b14), .val (.ref b22), .unset, .unset] [(.int (3 : Int32)), (.int (3 : Int32))])) _
      refine XS.icmpNo X517.here hx rfl (hb hby at_78) rfl (flt (by decide : ¬ ((3 : Int32) < (3 : Int32)))).1 ?_
      show Steps p.tables e below (T517.setTop (mkF m 81 #[.val (.int x0), .val (.int x1), .val (.int (3 : Int32)), .val (.int (x1 &&& (3 : Int32))), .val (.ref b1), .val (.ref b7), .val (.ref b14), .val (.ref b22), .unset, .unset] [])) _
      refine XS.aload X517.here hx rfl (hb hby at_81) rfl rfl ?_
      show Steps p.tables e below (T517.setTop (mkF m 83 #[.val (.int x0), .val (.int x1), .val (.int (3 : Int32)), .val (.int (x1 &&& (3 : Int32))), .val (.ref b1), .val (.ref b7), .val (.ref b14), .val (.ref b22), .unset, .unset] [(.ref b14)])) _
      refine XS.aload X517.here hx rfl (hb hby at_83) rfl rfl ?_
      show Steps p.tables e below (T517.setTop (mkF m 85 #[.val (.int x0), .val (.int x1), .val (.int (3 : Int32)), .val (.int (x1 &&& (3 : Int32))), .val (.ref b1), .val (.ref b7), .val (.ref b14), .val (.ref b22), .unset, .unset] [(.ref b1), (.ref b14)])) _
      refine st525.trans ?_
      show Steps p.tables e below (T525.setTop (mkF m 88 #[.val (.int x0), .val (.int x1), .val (.int (3 : Int32)), .val (.int (x1 &&& (3 : Int32))), .val (.ref b1), .val (.ref b7), .val (.ref b14), .val (.ref b22), .unset, .unset] [(.int (1 : Int32))])) _
      refine XS.pop X525.here hx rfl (hb hby at_88) rfl rfl ?_
      show Steps p.tables e below (T525.setTop (mkF m 89 #[.val (.int x0), .val (.int x1), .val (.int (3 : Int32)), .val (.int (x1 &&& (3 : Int32))), .val (.ref b1), .val (.ref b7), .val (.ref b14), .val (.ref b22), .unset, .unset] [])) _
      exact kgo
    rcases own_and3 x1 with hqx1 | hqx1 | hqx1 | hqx1
    · have pre529 : ∀ tgt, Steps p.tables e below (T525.setTop (mkF m 89 #[.val (.int x0), .val (.int x1), .val (.int (3 : Int32)), .val (.int (0 : Int32)), .val (.ref b1), .val (.ref b7), .val (.ref b14), .val (.ref b22), .unset, .unset] [])) tgt → Steps p.tables e below (s₁.setTop (entryFrame m #[(.int x0), (.int x1)] maxLocals)) tgt := by
        have q := pre528
        rw [hqx1] at q
        exact q
      have f530 := (f521.keep kp525)
      have f531 := (f522.keep kp525)
      have f532 := (f520.keep kp525)
      have f533 := (f523.keep kp525)
      have f534 := (f524.keep kp525)
      obtain ⟨T535, h535, X535, e535, E535, A535, D535, U535, st535⟩ := newO X525 hx hZ hown (ow88 hw) (ow89 hw) (ow90 hw) rfl (g := (mkF m 128 #[.val (.int x0), .val (.int x1), .val (.int (3 : Int32)), .val (.int (0 : Int32)), .val (.ref b1), .val (.ref b7), .val (.ref b14), .val (.ref b22), .unset, .unset] [])) rfl (hb hby at_128) (by decide) (by decide)
      obtain ⟨b535, g535⟩ : ∃ z, z = T525.heap.size := ⟨_, rfl⟩
      rw [← g535] at A535 D535 U535 st535
      have gn535 : n0 ≤ b535 := Nat.le_trans (own_sz Ol527) (Nat.le_of_eq g535.symm)
      have neb1_535 : b1 ≠ b535 := Nat.ne_of_lt (Nat.lt_of_lt_of_le f530.lt (Nat.le_of_eq g535.symm))
      have neb7_535 : b7 ≠ b535 := Nat.ne_of_lt (Nat.lt_of_lt_of_le f531.lt (Nat.le_of_eq g535.symm))
      have neb14_535 : b14 ≠ b535 := Nat.ne_of_lt (Nat.lt_of_lt_of_le f532.lt (Nat.le_of_eq g535.symm))
      have neb22_535 : b22 ≠ b535 := Nat.ne_of_lt (Nat.lt_of_lt_of_le f533.lt (Nat.le_of_eq g535.symm))
      have negb510_535 : gb510 ≠ b535 := Nat.ne_of_lt (Nat.lt_of_lt_of_le f534.lt (Nat.le_of_eq g535.symm))
      have Ol536 := Ol527.ext E535
      have FserviceExceeded_535 : Fld Z h535 b535 "com/example/atropos/atropos/analysis/Admission" "serviceExceeded" "Ljava/util/List;" .null := D535 (Or.inr (ow188 hw)) (ty := (.object "java/util/List")) (by decide)
      have FrateExceeded_535 : Fld Z h535 b535 "com/example/atropos/atropos/analysis/Admission" "rateExceeded" "Ljava/util/List;" .null := D535 (Or.inr (ow190 hw)) (ty := (.object "java/util/List")) (by decide)
      have f537 := (f532.ext E535)
      have f538 := (gs525.ext E535)
      have f539 := (ge525.ext E535)
      have f540 := (ga525.ext E535)
      have f541 := (f534.ext E535)
      have f542 := (f530.ext E535)
      have f543 := (f533.ext E535)
      have f544 := ((((gs24.keep kp510 (ninS (Ne.symm neb14_22) nin0)).keep kp517 (ninS (Ne.symm neb14_22) (ninS gne510_b22 nin0))).keep kp525 (ninS (Ne.symm neb14_22) (ninS gne510_b22 nin0))).ext E535)
      obtain ⟨_, _, ⟨T545, L545, k545, n545⟩, -, X545, ⟨Lc545, hQ545, l545, y545, z545⟩, st545⟩ := X535.specialBack hx (y := (⟨"com/example/atropos/atropos/analysis/Admission", "<init>", "(Ljava/util/List;Ljava/util/List;)V"⟩ : MethodName)) rfl hown (mvT hZ (ow91 hw)) (mvT hZ (ow92 hw)) (mvT hZ (ow93 hw)) (by decide) (backOf (W := 1) (rmadm l Z a0 hw [] b535 b14 b22 (0 : Int32) (1 : Int32) el tel kel em mr h535 n0 Ol536 A535 FserviceExceeded_535 FrateExceeded_535 gn535 (Or.inr (Or.inr (Or.inr ⟨b1, _, gb510, _, rfl, f537, f538, f539, f540, f541, f542, (ow205 hw)⟩))) (Or.inl ⟨rfl, f543, f544⟩) Sel Sem hM Eel Fel Ael) hZ (ow93 hw) (ow90 hw) (by decide) (by decide)) (g := (mkF m 136 #[.val (.int x0), .val (.int x1), .val (.int (3 : Int32)), .val (.int (0 : Int32)), .val (.ref b1), .val (.ref b7), .val (.ref b14), .val (.ref b22), .unset, .unset] [(.ref b22), (.ref b14), (.ref b535), (.ref b535)])) rfl (by rw [hml]; rfl) (Steps.refl _) (a := b535) (argsL := [(.ref b14), (.ref b22)]) (rest := [(.ref b535)]) (lenOf pd17 rfl) rfl (by show 2 * 0 + _ ≤ _; exact Nat.le_of_eq rfl) (hb hby at_136) (fun _ _ => ⟨rfl, e535, (by decide : 6 + 6 ≤ _), (by decide : 24 + 16 ≤ _)⟩)
      dsimp only [Pt.U, Pt.locs, Pt.cells, Pt.slots] at X545 l545 y545 z545 st545 hQ545
      subst l545 y545 z545
      obtain ⟨r1545, r2545, rfl, Nq545, kp545, f1545, f2545, e1545, e2545⟩ := hQ545
      have N546 := Fr.app N526 Nq545
      have Ol547 := Ol536.keep kp545 (allS gn535 all0)
      have f549 := (A535.keep kp545)
      obtain ⟨cq548, kq548, q548a, q548b, q548c⟩ := isOf hZ rfl f549
      obtain ⟨_, _, ⟨T548, L548, k548, n548⟩, -, X548, ⟨Lc548, hQ548, l548, y548, z548⟩, st548⟩ := X545.virtualBack hx (y := (⟨"com/example/atropos/atropos/analysis/Admission", "admits", "()Z"⟩ : MethodName)) (z := (⟨"com/example/atropos/atropos/analysis/Admission", "admits", "()Z"⟩ : MethodName)) hown (mvT hZ (ow191 hw)) (mvT hZ (ow192 hw)) (notFace_of_selects (args := #[]) (mvT hZ (ow194 hw))) (mvT hZ (ow194 hw)) (mvT hZ (ow193 hw)) (by decide) (backOf (W := 0) (rmadt l Z a0 hw [] b535 r1545 r2545 (0 : Int32) (1 : Int32) T545.heap n0 Ol547 f1545 f2545 e1545 e2545) hZ (ow195 hw) (ow90 hw) (by decide) (by decide)) q548a q548c (g := (mkF m 164 #[.val (.int x0), .val (.int x1), .val (.int (3 : Int32)), .val (.int (0 : Int32)), .val (.ref b1), .val (.ref b7), .val (.ref b14), .val (.ref b22), .val (.ref b535), .val (.int (0 : Int32))] [(.ref b535)])) rfl (by rw [hml]; rfl) (Steps.refl _) (argsL := []) (rest := []) (lenOf pd12 rfl) rfl (by show 2 * 0 + _ ≤ _; exact Nat.le_of_eq rfl) (hb hby at_164) (fun _ _ => ⟨rfl, rfl, (by decide : 12 + 0 ≤ _), (by decide : 40 + 0 ≤ _)⟩)
      dsimp only [Pt.U, Pt.locs, Pt.cells, Pt.slots] at X548 l548 y548 z548 st548 hQ548
      subst l548 y548 z548
      obtain ⟨rfl, Nq548, eq548⟩ := hQ548
      have N550 := Fr.app N546 Nq548
      obtain ⟨fs, hretL, hrun, hended, hW, hsame⟩ := X548.leave (v := some (.int (1 : Int32))) (fun h => by rw [Bd.returns] at h; cases h)
      refine ⟨_, _, pre529 _ ?_, hrun, hended, _, _, rfl, ?_, ⟨_, rfl⟩, hW, hsame.mono (by decide) (by decide)⟩
      · refine XS.iloadN X525.here hx rfl (hb hby at_89) rfl ?_
        show Steps p.tables e below (T525.setTop (mkF m 90 #[.val (.int x0), .val (.int x1), .val (.int (3 : Int32)), .val (.int (0 : Int32)), .val (.ref b1), .val (.ref b7), .val (.ref b14), .val (.ref b22), .unset, .unset] [(.int (0 : Int32))])) _
        refine XS.iconst X525.here hx rfl (hb hby at_90) ?_
        show Steps p.tables e below (T525.setTop (mkF m 91 #[.val (.int x0), .val (.int x1), .val (.int (3 : Int32)), .val (.int (0 : Int32)), .val (.ref b1), .val (.ref b7), .val (.ref b14), .val (.ref b22), .unset, .unset] [(.int (1 : Int32)), (.int (0 : Int32))])) _
        refine XS.icmpYes X525.here hx rfl (pc0 := 91) (pc' := 102) rfl (hb hby at_91) rfl (tlt (by decide : (0 : Int32) < (1 : Int32))).1 (by decide) (by decide) ?_
        show Steps p.tables e below (T525.setTop (mkF m 102 #[.val (.int x0), .val (.int x1), .val (.int (3 : Int32)), .val (.int (0 : Int32)), .val (.ref b1), .val (.ref b7), .val (.ref b14), .val (.ref b22), .unset, .unset] [])) _
        refine XS.iloadN X525.here hx rfl (hb hby at_102) rfl ?_
        show Steps p.tables e below (T525.setTop (mkF m 103 #[.val (.int x0), .val (.int x1), .val (.int (3 : Int32)), .val (.int (0 : Int32)), .val (.ref b1), .val (.ref b7), .val (.ref b14), .val (.ref b22), .unset, .unset] [(.int (0 : Int32))])) _
        refine XS.iconst X525.here hx rfl (hb hby at_103) ?_
        show Steps p.tables e below (T525.setTop (mkF m 104 #[.val (.int x0), .val (.int x1), .val (.int (3 : Int32)), .val (.int (0 : Int32)), .val (.ref b1), .val (.ref b7), .val (.ref b14), .val (.ref b22), .unset, .unset] [(.int (2 : Int32)), (.int (0 : Int32))])) _
        refine XS.icmpYes X525.here hx rfl (pc0 := 104) (pc' := 115) rfl (hb hby at_104) rfl (tlt (by decide : (0 : Int32) < (2 : Int32))).1 (by decide) (by decide) ?_
        show Steps p.tables e below (T525.setTop (mkF m 115 #[.val (.int x0), .val (.int x1), .val (.int (3 : Int32)), .val (.int (0 : Int32)), .val (.ref b1), .val (.ref b7), .val (.ref b14), .val (.ref b22), .unset, .unset] [])) _
        refine XS.iloadN X525.here hx rfl (hb hby at_115) rfl ?_
        show Steps p.tables e below (T525.setTop (mkF m 116 #[.val (.int x0), .val (.int x1), .val (.int (3 : Int32)), .val (.int (0 : Int32)), .val (.ref b1), .val (.ref b7), .val (.ref b14), .val (.ref b22), .unset, .unset] [(.int (0 : Int32))])) _
        refine XS.iconst X525.here hx rfl (hb hby at_116) ?_
        show Steps p.tables e below (T525.setTop (mkF m 117 #[.val (.int x0), .val (.int x1), .val (.int (3 : Int32)), .val (.int (0 : Int32)), .val (.ref b1), .val (.ref b7), .val (.ref b14), .val (.ref b22), .unset, .unset] [(.int (3 : Int32)), (.int (0 : Int32))])) _
        refine XS.icmpYes X525.here hx rfl (pc0 := 117) (pc' := 128) rfl (hb hby at_117) rfl (tlt (by decide : (0 : Int32) < (3 : Int32))).1 (by decide) (by decide) ?_
        show Steps p.tables e below (T525.setTop (mkF m 128 #[.val (.int x0), .val (.int x1), .val (.int (3 : Int32)), .val (.int (0 : Int32)), .val (.ref b1), .val (.ref b7), .val (.ref b14), .val (.ref b22), .unset, .unset] [])) _
        refine st535 _ ?_
        show Steps p.tables e below (T535.setTop (mkF m 131 #[.val (.int x0), .val (.int x1), .val (.int (3 : Int32)), .val (.int (0 : Int32)), .val (.ref b1), .val (.ref b7), .val (.ref b14), .val (.ref b22), .unset, .unset] [(.ref b535)])) _
        refine XS.dup X535.here hx rfl (hb hby at_131) rfl rfl ?_
        show Steps p.tables e below (T535.setTop (mkF m 132 #[.val (.int x0), .val (.int x1), .val (.int (3 : Int32)), .val (.int (0 : Int32)), .val (.ref b1), .val (.ref b7), .val (.ref b14), .val (.ref b22), .unset, .unset] [(.ref b535), (.ref b535)])) _
        refine XS.aload X535.here hx rfl (hb hby at_132) rfl rfl ?_
        show Steps p.tables e below (T535.setTop (mkF m 134 #[.val (.int x0), .val (.int x1), .val (.int (3 : Int32)), .val (.int (0 : Int32)), .val (.ref b1), .val (.ref b7), .val (.ref b14), .val (.ref b22), .unset, .unset] [(.ref b14), (.ref b535), (.ref b535)])) _
        refine XS.aload X535.here hx rfl (hb hby at_134) rfl rfl ?_
        show Steps p.tables e below (T535.setTop (mkF m 136 #[.val (.int x0), .val (.int x1), .val (.int (3 : Int32)), .val (.int (0 : Int32)), .val (.ref b1), .val (.ref b7), .val (.ref b14), .val (.ref b22), .unset, .unset] [(.ref b22), (.ref b14), (.ref b535), (.ref b535)])) _
        refine st545.trans ?_
        show Steps p.tables e below (T545.setTop (mkF m 139 #[.val (.int x0), .val (.int x1), .val (.int (3 : Int32)), .val (.int (0 : Int32)), .val (.ref b1), .val (.ref b7), .val (.ref b14), .val (.ref b22), .unset, .unset] [(.ref b535)])) _
        refine XS.astore X545.here hx rfl (hb hby at_139) rfl rfl (l' := #[.val (.int x0), .val (.int x1), .val (.int (3 : Int32)), .val (.int (0 : Int32)), .val (.ref b1), .val (.ref b7), .val (.ref b14), .val (.ref b22), .val (.ref b535), .unset]) rfl ?_
        show Steps p.tables e below (T545.setTop (mkF m 141 #[.val (.int x0), .val (.int x1), .val (.int (3 : Int32)), .val (.int (0 : Int32)), .val (.ref b1), .val (.ref b7), .val (.ref b14), .val (.ref b22), .val (.ref b535), .unset] [])) _
        refine XS.iloadN X545.here hx rfl (hb hby at_141) rfl ?_
        show Steps p.tables e below (T545.setTop (mkF m 142 #[.val (.int x0), .val (.int x1), .val (.int (3 : Int32)), .val (.int (0 : Int32)), .val (.ref b1), .val (.ref b7), .val (.ref b14), .val (.ref b22), .val (.ref b535), .unset] [(.int (3 : Int32))])) _
        refine XS.ifYes X545.here hx rfl (pc0 := 142) (pc' := 159) rfl (hb hby at_142) rfl ((if0 _ _).trans (feq (by decide : ¬ ((3 : Int32) = (0 : Int32)))).2) (by decide) (by decide) ?_
        show Steps p.tables e below (T545.setTop (mkF m 159 #[.val (.int x0), .val (.int x1), .val (.int (3 : Int32)), .val (.int (0 : Int32)), .val (.ref b1), .val (.ref b7), .val (.ref b14), .val (.ref b22), .val (.ref b535), .unset] [])) _
        refine XS.iconst X545.here hx rfl (hb hby at_159) ?_
        show Steps p.tables e below (T545.setTop (mkF m 160 #[.val (.int x0), .val (.int x1), .val (.int (3 : Int32)), .val (.int (0 : Int32)), .val (.ref b1), .val (.ref b7), .val (.ref b14), .val (.ref b22), .val (.ref b535), .unset] [(.int (0 : Int32))])) _
        refine XS.istore X545.here hx rfl (hb hby at_160) rfl (l' := #[.val (.int x0), .val (.int x1), .val (.int (3 : Int32)), .val (.int (0 : Int32)), .val (.ref b1), .val (.ref b7), .val (.ref b14), .val (.ref b22), .val (.ref b535), .val (.int (0 : Int32))]) rfl ?_
        show Steps p.tables e below (T545.setTop (mkF m 162 #[.val (.int x0), .val (.int x1), .val (.int (3 : Int32)), .val (.int (0 : Int32)), .val (.ref b1), .val (.ref b7), .val (.ref b14), .val (.ref b22), .val (.ref b535), .val (.int (0 : Int32))] [])) _
        refine XS.aload X545.here hx rfl (hb hby at_162) rfl rfl ?_
        show Steps p.tables e below (T545.setTop (mkF m 164 #[.val (.int x0), .val (.int x1), .val (.int (3 : Int32)), .val (.int (0 : Int32)), .val (.ref b1), .val (.ref b7), .val (.ref b14), .val (.ref b22), .val (.ref b535), .val (.int (0 : Int32))] [(.ref b535)])) _
        refine st548.trans ?_
        show Steps p.tables e below (T548.setTop (mkF m 167 #[.val (.int x0), .val (.int x1), .val (.int (3 : Int32)), .val (.int (0 : Int32)), .val (.ref b1), .val (.ref b7), .val (.ref b14), .val (.ref b22), .val (.ref b535), .val (.int (0 : Int32))] [(.int (adm (0 : Int32) (1 : Int32)))])) _
        refine XS.iload X548.here hx rfl (hb hby at_167) rfl ?_
        show Steps p.tables e below (T548.setTop (mkF m 169 #[.val (.int x0), .val (.int x1), .val (.int (3 : Int32)), .val (.int (0 : Int32)), .val (.ref b1), .val (.ref b7), .val (.ref b14), .val (.ref b22), .val (.ref b535), .val (.int (0 : Int32))] [(.int (0 : Int32)), (.int (adm (0 : Int32) (1 : Int32)))])) _
        refine XS.icmpNo X548.here hx rfl (hb hby at_169) rfl (teq (by decide)).2 ?_
        show Steps p.tables e below (T548.setTop (mkF m 172 #[.val (.int x0), .val (.int x1), .val (.int (3 : Int32)), .val (.int (0 : Int32)), .val (.ref b1), .val (.ref b7), .val (.ref b14), .val (.ref b22), .val (.ref b535), .val (.int (0 : Int32))] [])) _
        refine XS.iconst X548.here hx rfl (hb hby at_172) ?_
        show Steps p.tables e below (T548.setTop (mkF m 173 #[.val (.int x0), .val (.int x1), .val (.int (3 : Int32)), .val (.int (0 : Int32)), .val (.ref b1), .val (.ref b7), .val (.ref b14), .val (.ref b22), .val (.ref b535), .val (.int (0 : Int32))] [(.int (1 : Int32))])) _
        refine XS.goto X548.here hx rfl (pc0 := 173) (pc' := 177) rfl (hb hby at_173) (by decide) (by decide) ?_
        show Steps p.tables e below (T548.setTop (mkF m 177 #[.val (.int x0), .val (.int x1), .val (.int (3 : Int32)), .val (.int (0 : Int32)), .val (.ref b1), .val (.ref b7), .val (.ref b14), .val (.ref b22), .val (.ref b535), .val (.int (0 : Int32))] [(.int (1 : Int32))])) _
        exact retOut X548 hx Bd.returns rfl (Or.inl ⟨rfl, Or.inr (Or.inl rfl), _, rfl⟩) (hb hby at_177) hretL
      · show Q_rm0 Z x0 x1 de kde el tel kel em mr h0 n0 _ T548.heap _
        rw [eq548]
        exact ⟨rfl, N550⟩
    · have pre551 : ∀ tgt, Steps p.tables e below (T525.setTop (mkF m 89 #[.val (.int x0), .val (.int x1), .val (.int (3 : Int32)), .val (.int (1 : Int32)), .val (.ref b1), .val (.ref b7), .val (.ref b14), .val (.ref b22), .unset, .unset] [])) tgt → Steps p.tables e below (s₁.setTop (entryFrame m #[(.int x0), (.int x1)] maxLocals)) tgt := by
        have q := pre528
        rw [hqx1] at q
        exact q
      have f552 := (f523.keep kp525)
      have f553 := (((gm24.keep kp510 (ninS (Ne.symm neb14_22) nin0)).keep kp517 (ninS (Ne.symm neb14_22) (ninS gne510_b22 nin0))).keep kp525 (ninS (Ne.symm neb14_22) (ninS gne510_b22 nin0)))
      have f554 := (((gs24.keep kp510 (ninS (Ne.symm neb14_22) nin0)).keep kp517 (ninS (Ne.symm neb14_22) (ninS gne510_b22 nin0))).keep kp525 (ninS (Ne.symm neb14_22) (ninS gne510_b22 nin0)))
      have f555 := (((ge24.keep kp510 (ninS (Ne.symm neb14_22) nin0)).keep kp517 (ninS (Ne.symm neb14_22) (ninS gne510_b22 nin0))).keep kp525 (ninS (Ne.symm neb14_22) (ninS gne510_b22 nin0)))
      have f556 := (f522.keep kp525)
      have f557 := (f521.keep kp525)
      have f558 := (f520.keep kp525)
      have f559 := (f524.keep kp525)
      obtain ⟨cq560, kq560, q560a, q560b, q560c⟩ := isOf hZ rfl f552
      obtain ⟨_, _, ⟨T560, L560, k560, n560⟩, -, X560, ⟨Lc560, hQ560, l560, y560, z560⟩, st560⟩ := X525.virtualBack hx (y := (⟨"java/util/ArrayList", "add", "(Ljava/lang/Object;)Z"⟩ : MethodName)) (z := (⟨"java/util/ArrayList", "add", "(Ljava/lang/Object;)Z"⟩ : MethodName)) hown (mvT hZ (ow57 hw)) (mvT hZ (ow58 hw)) (notFace_of_selects (args := #[]) (mvT hZ (ow60 hw))) (mvT hZ (ow60 hw)) (mvT hZ (ow59 hw)) (by decide) (backOf (W := 0) (rmad0 l Z a0 hw [] b22 b7 de kde (0 : Int32) "com/example/atropos/atropos/ops/Excess$Rate" T525.heap n0 Ol527 Sde Ade f552 f553 f554 f555 gn22 f556 (ow87 hw)) hZ (ow61 hw) (ow35 hw) (by decide) (by decide)) q560a q560c (g := (mkF m 98 #[.val (.int x0), .val (.int x1), .val (.int (3 : Int32)), .val (.int (1 : Int32)), .val (.ref b1), .val (.ref b7), .val (.ref b14), .val (.ref b22), .unset, .unset] [(.ref b7), (.ref b22)])) rfl (by rw [hml]; rfl) (Steps.refl _) (argsL := [(.ref b7)]) (rest := []) (lenOf pd18 rfl) rfl (by show 2 * 0 + _ ≤ _; exact Nat.le_of_eq rfl) (hb hby at_98) (fun _ _ => ⟨rfl, rfl, (by decide : 5 + 1 ≤ _), (by decide : 22 + 10 ≤ _)⟩)
      dsimp only [Pt.U, Pt.locs, Pt.cells, Pt.slots] at X560 l560 y560 z560 st560 hQ560
      subst l560 y560 z560
      obtain ⟨gb560, gk560, rfl, Nq560, kp560, gg560, gz560, go560, gE560, gm560, gs560, ge560, ga560⟩ := hQ560
      have N561 := Fr.app N526 Nq560
      have Ol562 := Ol527.keep kp560 (allS gn22 all0)
      have gne560_b1 : b1 ≠ gb560 := Nat.ne_of_lt (Nat.lt_of_lt_of_le f557.lt gz560)
      have gne560_b7 : b7 ≠ gb560 := Nat.ne_of_lt (Nat.lt_of_lt_of_le f556.lt gz560)
      have gne560_b14 : b14 ≠ gb560 := Nat.ne_of_lt (Nat.lt_of_lt_of_le f558.lt gz560)
      have gne560_b22 : b22 ≠ gb560 := Nat.ne_of_lt (Nat.lt_of_lt_of_le f552.lt gz560)
      have gne560_gb510 : gb510 ≠ gb560 := Nat.ne_of_lt (Nat.lt_of_lt_of_le f559.lt gz560)
      have f563 := (f557.keep kp560)
      have f564 := (f556.keep kp560)
      have f565 := (f558.keep kp560)
      have f566 := (f552.keep kp560)
      have f567 := (f559.keep kp560)
      obtain ⟨T568, h568, X568, e568, E568, A568, D568, U568, st568⟩ := newO X560 hx hZ hown (ow88 hw) (ow89 hw) (ow90 hw) rfl (g := (mkF m 128 #[.val (.int x0), .val (.int x1), .val (.int (3 : Int32)), .val (.int (1 : Int32)), .val (.ref b1), .val (.ref b7), .val (.ref b14), .val (.ref b22), .unset, .unset] [])) rfl (hb hby at_128) (by decide) (by decide)
      obtain ⟨b568, g568⟩ : ∃ z, z = T560.heap.size := ⟨_, rfl⟩
      rw [← g568] at A568 D568 U568 st568
      have gn568 : n0 ≤ b568 := Nat.le_trans (own_sz Ol562) (Nat.le_of_eq g568.symm)
      have neb1_568 : b1 ≠ b568 := Nat.ne_of_lt (Nat.lt_of_lt_of_le f563.lt (Nat.le_of_eq g568.symm))
      have neb7_568 : b7 ≠ b568 := Nat.ne_of_lt (Nat.lt_of_lt_of_le f564.lt (Nat.le_of_eq g568.symm))
      have neb14_568 : b14 ≠ b568 := Nat.ne_of_lt (Nat.lt_of_lt_of_le f565.lt (Nat.le_of_eq g568.symm))
      have neb22_568 : b22 ≠ b568 := Nat.ne_of_lt (Nat.lt_of_lt_of_le f566.lt (Nat.le_of_eq g568.symm))
      have negb510_568 : gb510 ≠ b568 := Nat.ne_of_lt (Nat.lt_of_lt_of_le f567.lt (Nat.le_of_eq g568.symm))
      have negb560_568 : gb560 ≠ b568 := Nat.ne_of_lt (Nat.lt_of_lt_of_le gE560.lt (Nat.le_of_eq g568.symm))
      have Ol569 := Ol562.ext E568
      have FserviceExceeded_568 : Fld Z h568 b568 "com/example/atropos/atropos/analysis/Admission" "serviceExceeded" "Ljava/util/List;" .null := D568 (Or.inr (ow188 hw)) (ty := (.object "java/util/List")) (by decide)
      have FrateExceeded_568 : Fld Z h568 b568 "com/example/atropos/atropos/analysis/Admission" "rateExceeded" "Ljava/util/List;" .null := D568 (Or.inr (ow190 hw)) (ty := (.object "java/util/List")) (by decide)
      have f570 := (f565.ext E568)
      have f571 := ((gs525.keep kp560 (ninS neb14_22 nin0)).ext E568)
      have f572 := ((ge525.keep kp560 (ninS neb14_22 nin0)).ext E568)
      have f573 := ((ga525.keep kp560 (ninS (Ne.symm gne510_b22) nin0)).ext E568)
      have f574 := (f567.ext E568)
      have f575 := (f563.ext E568)
      have f576 := (f566.ext E568)
      have f577 := (gs560.ext E568)
      have f578 := (ge560.ext E568)
      have f579 := (ga560.ext E568)
      have f580 := (gE560.ext E568)
      have f581 := (f564.ext E568)
      obtain ⟨_, _, ⟨T582, L582, k582, n582⟩, -, X582, ⟨Lc582, hQ582, l582, y582, z582⟩, st582⟩ := X568.specialBack hx (y := (⟨"com/example/atropos/atropos/analysis/Admission", "<init>", "(Ljava/util/List;Ljava/util/List;)V"⟩ : MethodName)) rfl hown (mvT hZ (ow91 hw)) (mvT hZ (ow92 hw)) (mvT hZ (ow93 hw)) (by decide) (backOf (W := 1) (rmadm l Z a0 hw [] b568 b14 b22 (0 : Int32) (0 : Int32) el tel kel em mr h568 n0 Ol569 A568 FserviceExceeded_568 FrateExceeded_568 gn568 (Or.inr (Or.inr (Or.inr ⟨b1, _, gb510, _, rfl, f570, f571, f572, f573, f574, f575, (ow205 hw)⟩))) (Or.inr (Or.inl ⟨b7, _, gb560, _, rfl, f576, f577, f578, f579, f580, f581, (ow87 hw)⟩)) Sel Sem hM Eel Fel Ael) hZ (ow93 hw) (ow90 hw) (by decide) (by decide)) (g := (mkF m 136 #[.val (.int x0), .val (.int x1), .val (.int (3 : Int32)), .val (.int (1 : Int32)), .val (.ref b1), .val (.ref b7), .val (.ref b14), .val (.ref b22), .unset, .unset] [(.ref b22), (.ref b14), (.ref b568), (.ref b568)])) rfl (by rw [hml]; rfl) (Steps.refl _) (a := b568) (argsL := [(.ref b14), (.ref b22)]) (rest := [(.ref b568)]) (lenOf pd17 rfl) rfl (by show 2 * 0 + _ ≤ _; exact Nat.le_of_eq rfl) (hb hby at_136) (fun _ _ => ⟨rfl, e568, (by decide : 7 + 6 ≤ _), (by decide : 34 + 16 ≤ _)⟩)
      dsimp only [Pt.U, Pt.locs, Pt.cells, Pt.slots] at X582 l582 y582 z582 st582 hQ582
      subst l582 y582 z582
      obtain ⟨r1582, r2582, rfl, Nq582, kp582, f1582, f2582, e1582, e2582⟩ := hQ582
      have N583 := Fr.app N561 Nq582
      have Ol584 := Ol569.keep kp582 (allS gn568 all0)
      have f586 := (A568.keep kp582)
      obtain ⟨cq585, kq585, q585a, q585b, q585c⟩ := isOf hZ rfl f586
      obtain ⟨_, _, ⟨T585, L585, k585, n585⟩, -, X585, ⟨Lc585, hQ585, l585, y585, z585⟩, st585⟩ := X582.virtualBack hx (y := (⟨"com/example/atropos/atropos/analysis/Admission", "admits", "()Z"⟩ : MethodName)) (z := (⟨"com/example/atropos/atropos/analysis/Admission", "admits", "()Z"⟩ : MethodName)) hown (mvT hZ (ow191 hw)) (mvT hZ (ow192 hw)) (notFace_of_selects (args := #[]) (mvT hZ (ow194 hw))) (mvT hZ (ow194 hw)) (mvT hZ (ow193 hw)) (by decide) (backOf (W := 0) (rmadt l Z a0 hw [] b568 r1582 r2582 (0 : Int32) (0 : Int32) T582.heap n0 Ol584 f1582 f2582 e1582 e2582) hZ (ow195 hw) (ow90 hw) (by decide) (by decide)) q585a q585c (g := (mkF m 164 #[.val (.int x0), .val (.int x1), .val (.int (3 : Int32)), .val (.int (1 : Int32)), .val (.ref b1), .val (.ref b7), .val (.ref b14), .val (.ref b22), .val (.ref b568), .val (.int (0 : Int32))] [(.ref b568)])) rfl (by rw [hml]; rfl) (Steps.refl _) (argsL := []) (rest := []) (lenOf pd12 rfl) rfl (by show 2 * 0 + _ ≤ _; exact Nat.le_of_eq rfl) (hb hby at_164) (fun _ _ => ⟨rfl, rfl, (by decide : 13 + 0 ≤ _), (by decide : 50 + 0 ≤ _)⟩)
      dsimp only [Pt.U, Pt.locs, Pt.cells, Pt.slots] at X585 l585 y585 z585 st585 hQ585
      subst l585 y585 z585
      obtain ⟨rfl, Nq585, eq585⟩ := hQ585
      have N587 := Fr.app N583 Nq585
      obtain ⟨fs, hretL, hrun, hended, hW, hsame⟩ := X585.leave (v := some (.int (1 : Int32))) (fun h => by rw [Bd.returns] at h; cases h)
      refine ⟨_, _, pre551 _ ?_, hrun, hended, _, _, rfl, ?_, ⟨_, rfl⟩, hW, hsame.mono (by decide) (by decide)⟩
      · refine XS.iloadN X525.here hx rfl (hb hby at_89) rfl ?_
        show Steps p.tables e below (T525.setTop (mkF m 90 #[.val (.int x0), .val (.int x1), .val (.int (3 : Int32)), .val (.int (1 : Int32)), .val (.ref b1), .val (.ref b7), .val (.ref b14), .val (.ref b22), .unset, .unset] [(.int (1 : Int32))])) _
        refine XS.iconst X525.here hx rfl (hb hby at_90) ?_
        show Steps p.tables e below (T525.setTop (mkF m 91 #[.val (.int x0), .val (.int x1), .val (.int (3 : Int32)), .val (.int (1 : Int32)), .val (.ref b1), .val (.ref b7), .val (.ref b14), .val (.ref b22), .unset, .unset] [(.int (1 : Int32)), (.int (1 : Int32))])) _
        refine XS.icmpNo X525.here hx rfl (hb hby at_91) rfl (flt (by decide : ¬ ((1 : Int32) < (1 : Int32)))).1 ?_
        show Steps p.tables e below (T525.setTop (mkF m 94 #[.val (.int x0), .val (.int x1), .val (.int (3 : Int32)), .val (.int (1 : Int32)), .val (.ref b1), .val (.ref b7), .val (.ref b14), .val (.ref b22), .unset, .unset] [])) _
        refine XS.aload X525.here hx rfl (hb hby at_94) rfl rfl ?_
        show Steps p.tables e below (T525.setTop (mkF m 96 #[.val (.int x0), .val (.int x1), .val (.int (3 : Int32)), .val (.int (1 : Int32)), .val (.ref b1), .val (.ref b7), .val (.ref b14), .val (.ref b22), .unset, .unset] [(.ref b22)])) _
        refine XS.aload X525.here hx rfl (hb hby at_96) rfl rfl ?_
        show Steps p.tables e below (T525.setTop (mkF m 98 #[.val (.int x0), .val (.int x1), .val (.int (3 : Int32)), .val (.int (1 : Int32)), .val (.ref b1), .val (.ref b7), .val (.ref b14), .val (.ref b22), .unset, .unset] [(.ref b7), (.ref b22)])) _
        refine st560.trans ?_
        show Steps p.tables e below (T560.setTop (mkF m 101 #[.val (.int x0), .val (.int x1), .val (.int (3 : Int32)), .val (.int (1 : Int32)), .val (.ref b1), .val (.ref b7), .val (.ref b14), .val (.ref b22), .unset, .unset] [(.int (1 : Int32))])) _
        refine XS.pop X560.here hx rfl (hb hby at_101) rfl rfl ?_
        show Steps p.tables e below (T560.setTop (mkF m 102 #[.val (.int x0), .val (.int x1), .val (.int (3 : Int32)), .val (.int (1 : Int32)), .val (.ref b1), .val (.ref b7), .val (.ref b14), .val (.ref b22), .unset, .unset] [])) _
        refine XS.iloadN X560.here hx rfl (hb hby at_102) rfl ?_
        show Steps p.tables e below (T560.setTop (mkF m 103 #[.val (.int x0), .val (.int x1), .val (.int (3 : Int32)), .val (.int (1 : Int32)), .val (.ref b1), .val (.ref b7), .val (.ref b14), .val (.ref b22), .unset, .unset] [(.int (1 : Int32))])) _
        refine XS.iconst X560.here hx rfl (hb hby at_103) ?_
        show Steps p.tables e below (T560.setTop (mkF m 104 #[.val (.int x0), .val (.int x1), .val (.int (3 : Int32)), .val (.int (1 : Int32)), .val (.ref b1), .val (.ref b7), .val (.ref b14), .val (.ref b22), .unset, .unset] [(.int (2 : Int32)), (.int (1 : Int32))])) _
        refine XS.icmpYes X560.here hx rfl (pc0 := 104) (pc' := 115) rfl (hb hby at_104) rfl (tlt (by decide : (1 : Int32) < (2 : Int32))).1 (by decide) (by decide) ?_
        show Steps p.tables e below (T560.setTop (mkF m 115 #[.val (.int x0), .val (.int x1), .val (.int (3 : Int32)), .val (.int (1 : Int32)), .val (.ref b1), .val (.ref b7), .val (.ref b14), .val (.ref b22), .unset, .unset] [])) _
        refine XS.iloadN X560.here hx rfl (hb hby at_115) rfl ?_
        show Steps p.tables e below (T560.setTop (mkF m 116 #[.val (.int x0), .val (.int x1), .val (.int (3 : Int32)), .val (.int (1 : Int32)), .val (.ref b1), .val (.ref b7), .val (.ref b14), .val (.ref b22), .unset, .unset] [(.int (1 : Int32))])) _
        refine XS.iconst X560.here hx rfl (hb hby at_116) ?_
        show Steps p.tables e below (T560.setTop (mkF m 117 #[.val (.int x0), .val (.int x1), .val (.int (3 : Int32)), .val (.int (1 : Int32)), .val (.ref b1), .val (.ref b7), .val (.ref b14), .val (.ref b22), .unset, .unset] [(.int (3 : Int32)), (.int (1 : Int32))])) _
        refine XS.icmpYes X560.here hx rfl (pc0 := 117) (pc' := 128) rfl (hb hby at_117) rfl (tlt (by decide : (1 : Int32) < (3 : Int32))).1 (by decide) (by decide) ?_
        show Steps p.tables e below (T560.setTop (mkF m 128 #[.val (.int x0), .val (.int x1), .val (.int (3 : Int32)), .val (.int (1 : Int32)), .val (.ref b1), .val (.ref b7), .val (.ref b14), .val (.ref b22), .unset, .unset] [])) _
        refine st568 _ ?_
        show Steps p.tables e below (T568.setTop (mkF m 131 #[.val (.int x0), .val (.int x1), .val (.int (3 : Int32)), .val (.int (1 : Int32)), .val (.ref b1), .val (.ref b7), .val (.ref b14), .val (.ref b22), .unset, .unset] [(.ref b568)])) _
        refine XS.dup X568.here hx rfl (hb hby at_131) rfl rfl ?_
        show Steps p.tables e below (T568.setTop (mkF m 132 #[.val (.int x0), .val (.int x1), .val (.int (3 : Int32)), .val (.int (1 : Int32)), .val (.ref b1), .val (.ref b7), .val (.ref b14), .val (.ref b22), .unset, .unset] [(.ref b568), (.ref b568)])) _
        refine XS.aload X568.here hx rfl (hb hby at_132) rfl rfl ?_
        show Steps p.tables e below (T568.setTop (mkF m 134 #[.val (.int x0), .val (.int x1), .val (.int (3 : Int32)), .val (.int (1 : Int32)), .val (.ref b1), .val (.ref b7), .val (.ref b14), .val (.ref b22), .unset, .unset] [(.ref b14), (.ref b568), (.ref b568)])) _
        refine XS.aload X568.here hx rfl (hb hby at_134) rfl rfl ?_
        show Steps p.tables e below (T568.setTop (mkF m 136 #[.val (.int x0), .val (.int x1), .val (.int (3 : Int32)), .val (.int (1 : Int32)), .val (.ref b1), .val (.ref b7), .val (.ref b14), .val (.ref b22), .unset, .unset] [(.ref b22), (.ref b14), (.ref b568), (.ref b568)])) _
        refine st582.trans ?_
        show Steps p.tables e below (T582.setTop (mkF m 139 #[.val (.int x0), .val (.int x1), .val (.int (3 : Int32)), .val (.int (1 : Int32)), .val (.ref b1), .val (.ref b7), .val (.ref b14), .val (.ref b22), .unset, .unset] [(.ref b568)])) _
        refine XS.astore X582.here hx rfl (hb hby at_139) rfl rfl (l' := #[.val (.int x0), .val (.int x1), .val (.int (3 : Int32)), .val (.int (1 : Int32)), .val (.ref b1), .val (.ref b7), .val (.ref b14), .val (.ref b22), .val (.ref b568), .unset]) rfl ?_
        show Steps p.tables e below (T582.setTop (mkF m 141 #[.val (.int x0), .val (.int x1), .val (.int (3 : Int32)), .val (.int (1 : Int32)), .val (.ref b1), .val (.ref b7), .val (.ref b14), .val (.ref b22), .val (.ref b568), .unset] [])) _
        refine XS.iloadN X582.here hx rfl (hb hby at_141) rfl ?_
        show Steps p.tables e below (T582.setTop (mkF m 142 #[.val (.int x0), .val (.int x1), .val (.int (3 : Int32)), .val (.int (1 : Int32)), .val (.ref b1), .val (.ref b7), .val (.ref b14), .val (.ref b22), .val (.ref b568), .unset] [(.int (3 : Int32))])) _
        refine XS.ifYes X582.here hx rfl (pc0 := 142) (pc' := 159) rfl (hb hby at_142) rfl ((if0 _ _).trans (feq (by decide : ¬ ((3 : Int32) = (0 : Int32)))).2) (by decide) (by decide) ?_
        show Steps p.tables e below (T582.setTop (mkF m 159 #[.val (.int x0), .val (.int x1), .val (.int (3 : Int32)), .val (.int (1 : Int32)), .val (.ref b1), .val (.ref b7), .val (.ref b14), .val (.ref b22), .val (.ref b568), .unset] [])) _
        refine XS.iconst X582.here hx rfl (hb hby at_159) ?_
        show Steps p.tables e below (T582.setTop (mkF m 160 #[.val (.int x0), .val (.int x1), .val (.int (3 : Int32)), .val (.int (1 : Int32)), .val (.ref b1), .val (.ref b7), .val (.ref b14), .val (.ref b22), .val (.ref b568), .unset] [(.int (0 : Int32))])) _
        refine XS.istore X582.here hx rfl (hb hby at_160) rfl (l' := #[.val (.int x0), .val (.int x1), .val (.int (3 : Int32)), .val (.int (1 : Int32)), .val (.ref b1), .val (.ref b7), .val (.ref b14), .val (.ref b22), .val (.ref b568), .val (.int (0 : Int32))]) rfl ?_
        show Steps p.tables e below (T582.setTop (mkF m 162 #[.val (.int x0), .val (.int x1), .val (.int (3 : Int32)), .val (.int (1 : Int32)), .val (.ref b1), .val (.ref b7), .val (.ref b14), .val (.ref b22), .val (.ref b568), .val (.int (0 : Int32))] [])) _
        refine XS.aload X582.here hx rfl (hb hby at_162) rfl rfl ?_
        show Steps p.tables e below (T582.setTop (mkF m 164 #[.val (.int x0), .val (.int x1), .val (.int (3 : Int32)), .val (.int (1 : Int32)), .val (.ref b1), .val (.ref b7), .val (.ref b14), .val (.ref b22), .val (.ref b568), .val (.int (0 : Int32))] [(.ref b568)])) _
        refine st585.trans ?_
        show Steps p.tables e below (T585.setTop (mkF m 167 #[.val (.int x0), .val (.int x1), .val (.int (3 : Int32)), .val (.int (1 : Int32)), .val (.ref b1), .val (.ref b7), .val (.ref b14), .val (.ref b22), .val (.ref b568), .val (.int (0 : Int32))] [(.int (adm (0 : Int32) (0 : Int32)))])) _
        refine XS.iload X585.here hx rfl (hb hby at_167) rfl ?_
        show Steps p.tables e below (T585.setTop (mkF m 169 #[.val (.int x0), .val (.int x1), .val (.int (3 : Int32)), .val (.int (1 : Int32)), .val (.ref b1), .val (.ref b7), .val (.ref b14), .val (.ref b22), .val (.ref b568), .val (.int (0 : Int32))] [(.int (0 : Int32)), (.int (adm (0 : Int32) (0 : Int32)))])) _
        refine XS.icmpNo X585.here hx rfl (hb hby at_169) rfl (teq (by decide)).2 ?_
        show Steps p.tables e below (T585.setTop (mkF m 172 #[.val (.int x0), .val (.int x1), .val (.int (3 : Int32)), .val (.int (1 : Int32)), .val (.ref b1), .val (.ref b7), .val (.ref b14), .val (.ref b22), .val (.ref b568), .val (.int (0 : Int32))] [])) _
        refine XS.iconst X585.here hx rfl (hb hby at_172) ?_
        show Steps p.tables e below (T585.setTop (mkF m 173 #[.val (.int x0), .val (.int x1), .val (.int (3 : Int32)), .val (.int (1 : Int32)), .val (.ref b1), .val (.ref b7), .val (.ref b14), .val (.ref b22), .val (.ref b568), .val (.int (0 : Int32))] [(.int (1 : Int32))])) _
        refine XS.goto X585.here hx rfl (pc0 := 173) (pc' := 177) rfl (hb hby at_173) (by decide) (by decide) ?_
        show Steps p.tables e below (T585.setTop (mkF m 177 #[.val (.int x0), .val (.int x1), .val (.int (3 : Int32)), .val (.int (1 : Int32)), .val (.ref b1), .val (.ref b7), .val (.ref b14), .val (.ref b22), .val (.ref b568), .val (.int (0 : Int32))] [(.int (1 : Int32))])) _
        exact retOut X585 hx Bd.returns rfl (Or.inl ⟨rfl, Or.inr (Or.inl rfl), _, rfl⟩) (hb hby at_177) hretL
      · show Q_rm0 Z x0 x1 de kde el tel kel em mr h0 n0 _ T585.heap _
        rw [eq585]
        exact ⟨rfl, N587⟩
    · have pre588 : ∀ tgt, Steps p.tables e below (T525.setTop (mkF m 89 #[.val (.int x0), .val (.int x1), .val (.int (3 : Int32)), .val (.int (2 : Int32)), .val (.ref b1), .val (.ref b7), .val (.ref b14), .val (.ref b22), .unset, .unset] [])) tgt → Steps p.tables e below (s₁.setTop (entryFrame m #[(.int x0), (.int x1)] maxLocals)) tgt := by
        have q := pre528
        rw [hqx1] at q
        exact q
      have f589 := (f523.keep kp525)
      have f590 := (((gm24.keep kp510 (ninS (Ne.symm neb14_22) nin0)).keep kp517 (ninS (Ne.symm neb14_22) (ninS gne510_b22 nin0))).keep kp525 (ninS (Ne.symm neb14_22) (ninS gne510_b22 nin0)))
      have f591 := (((gs24.keep kp510 (ninS (Ne.symm neb14_22) nin0)).keep kp517 (ninS (Ne.symm neb14_22) (ninS gne510_b22 nin0))).keep kp525 (ninS (Ne.symm neb14_22) (ninS gne510_b22 nin0)))
      have f592 := (((ge24.keep kp510 (ninS (Ne.symm neb14_22) nin0)).keep kp517 (ninS (Ne.symm neb14_22) (ninS gne510_b22 nin0))).keep kp525 (ninS (Ne.symm neb14_22) (ninS gne510_b22 nin0)))
      have f593 := (f522.keep kp525)
      have f594 := (f521.keep kp525)
      have f595 := (f520.keep kp525)
      have f596 := (f524.keep kp525)
      obtain ⟨cq597, kq597, q597a, q597b, q597c⟩ := isOf hZ rfl f589
      obtain ⟨_, _, ⟨T597, L597, k597, n597⟩, -, X597, ⟨Lc597, hQ597, l597, y597, z597⟩, st597⟩ := X525.virtualBack hx (y := (⟨"java/util/ArrayList", "add", "(Ljava/lang/Object;)Z"⟩ : MethodName)) (z := (⟨"java/util/ArrayList", "add", "(Ljava/lang/Object;)Z"⟩ : MethodName)) hown (mvT hZ (ow57 hw)) (mvT hZ (ow58 hw)) (notFace_of_selects (args := #[]) (mvT hZ (ow60 hw))) (mvT hZ (ow60 hw)) (mvT hZ (ow59 hw)) (by decide) (backOf (W := 0) (rmad0 l Z a0 hw [] b22 b7 de kde (0 : Int32) "com/example/atropos/atropos/ops/Excess$Rate" T525.heap n0 Ol527 Sde Ade f589 f590 f591 f592 gn22 f593 (ow87 hw)) hZ (ow61 hw) (ow35 hw) (by decide) (by decide)) q597a q597c (g := (mkF m 98 #[.val (.int x0), .val (.int x1), .val (.int (3 : Int32)), .val (.int (2 : Int32)), .val (.ref b1), .val (.ref b7), .val (.ref b14), .val (.ref b22), .unset, .unset] [(.ref b7), (.ref b22)])) rfl (by rw [hml]; rfl) (Steps.refl _) (argsL := [(.ref b7)]) (rest := []) (lenOf pd18 rfl) rfl (by show 2 * 0 + _ ≤ _; exact Nat.le_of_eq rfl) (hb hby at_98) (fun _ _ => ⟨rfl, rfl, (by decide : 5 + 1 ≤ _), (by decide : 22 + 10 ≤ _)⟩)
      dsimp only [Pt.U, Pt.locs, Pt.cells, Pt.slots] at X597 l597 y597 z597 st597 hQ597
      subst l597 y597 z597
      obtain ⟨gb597, gk597, rfl, Nq597, kp597, gg597, gz597, go597, gE597, gm597, gs597, ge597, ga597⟩ := hQ597
      have N598 := Fr.app N526 Nq597
      have Ol599 := Ol527.keep kp597 (allS gn22 all0)
      have gne597_b1 : b1 ≠ gb597 := Nat.ne_of_lt (Nat.lt_of_lt_of_le f594.lt gz597)
      have gne597_b7 : b7 ≠ gb597 := Nat.ne_of_lt (Nat.lt_of_lt_of_le f593.lt gz597)
      have gne597_b14 : b14 ≠ gb597 := Nat.ne_of_lt (Nat.lt_of_lt_of_le f595.lt gz597)
      have gne597_b22 : b22 ≠ gb597 := Nat.ne_of_lt (Nat.lt_of_lt_of_le f589.lt gz597)
      have gne597_gb510 : gb510 ≠ gb597 := Nat.ne_of_lt (Nat.lt_of_lt_of_le f596.lt gz597)
      have f600 := (f589.keep kp597)
      have f601 := (f593.keep kp597)
      have f602 := (f594.keep kp597)
      have f603 := (f595.keep kp597)
      have f604 := (f596.keep kp597)
      obtain ⟨cq605, kq605, q605a, q605b, q605c⟩ := isOf hZ rfl f600
      obtain ⟨_, _, ⟨T605, L605, k605, n605⟩, -, X605, ⟨Lc605, hQ605, l605, y605, z605⟩, st605⟩ := X597.virtualBack hx (y := (⟨"java/util/ArrayList", "add", "(Ljava/lang/Object;)Z"⟩ : MethodName)) (z := (⟨"java/util/ArrayList", "add", "(Ljava/lang/Object;)Z"⟩ : MethodName)) hown (mvT hZ (ow57 hw)) (mvT hZ (ow58 hw)) (notFace_of_selects (args := #[]) (mvT hZ (ow60 hw))) (mvT hZ (ow60 hw)) (mvT hZ (ow59 hw)) (by decide) (backOf (W := 0) (rmad1 l Z a0 hw [] b22 b7 ((0 : Int32) + (1 : Int32)) gb597 gk597 "com/example/atropos/atropos/ops/Excess$Rate" T597.heap n0 Ol599 ga597 go597 gg597 gne597_b22 f600 gm597 gs597 ge597 gn22 f601 (ow87 hw)) hZ (ow61 hw) (ow35 hw) (by decide) (by decide)) q605a q605c (g := (mkF m 111 #[.val (.int x0), .val (.int x1), .val (.int (3 : Int32)), .val (.int (2 : Int32)), .val (.ref b1), .val (.ref b7), .val (.ref b14), .val (.ref b22), .unset, .unset] [(.ref b7), (.ref b22)])) rfl (by rw [hml]; rfl) (Steps.refl _) (argsL := [(.ref b7)]) (rest := []) (lenOf pd18 rfl) rfl (by show 2 * 0 + _ ≤ _; exact Nat.le_of_eq rfl) (hb hby at_111) (fun _ _ => ⟨rfl, rfl, (by decide : 6 + 0 ≤ _), (by decide : 32 + 0 ≤ _)⟩)
      dsimp only [Pt.U, Pt.locs, Pt.cells, Pt.slots] at X605 l605 y605 z605 st605 hQ605
      subst l605 y605 z605
      obtain ⟨rfl, Nq605, kp605, gm605, gs605, ge605, ga605⟩ := hQ605
      have N606 := Fr.app N598 Nq605
      have Ol607 := Ol599.keep kp605 (allS gn22 (allS gg597 all0))
      have f608 := (f602.keep kp605)
      have f609 := (f601.keep kp605)
      have f610 := (f603.keep kp605)
      have f611 := (f600.keep kp605)
      have f612 := (f604.keep kp605)
      have f613 := (gE597.keep kp605)
      obtain ⟨T614, h614, X614, e614, E614, A614, D614, U614, st614⟩ := newO X605 hx hZ hown (ow88 hw) (ow89 hw) (ow90 hw) rfl (g := (mkF m 128 #[.val (.int x0), .val (.int x1), .val (.int (3 : Int32)), .val (.int (2 : Int32)), .val (.ref b1), .val (.ref b7), .val (.ref b14), .val (.ref b22), .unset, .unset] [])) rfl (hb hby at_128) (by decide) (by decide)
      obtain ⟨b614, g614⟩ : ∃ z, z = T605.heap.size := ⟨_, rfl⟩
      rw [← g614] at A614 D614 U614 st614
      have gn614 : n0 ≤ b614 := Nat.le_trans (own_sz Ol607) (Nat.le_of_eq g614.symm)
      have neb1_614 : b1 ≠ b614 := Nat.ne_of_lt (Nat.lt_of_lt_of_le f608.lt (Nat.le_of_eq g614.symm))
      have neb7_614 : b7 ≠ b614 := Nat.ne_of_lt (Nat.lt_of_lt_of_le f609.lt (Nat.le_of_eq g614.symm))
      have neb14_614 : b14 ≠ b614 := Nat.ne_of_lt (Nat.lt_of_lt_of_le f610.lt (Nat.le_of_eq g614.symm))
      have neb22_614 : b22 ≠ b614 := Nat.ne_of_lt (Nat.lt_of_lt_of_le f611.lt (Nat.le_of_eq g614.symm))
      have negb510_614 : gb510 ≠ b614 := Nat.ne_of_lt (Nat.lt_of_lt_of_le f612.lt (Nat.le_of_eq g614.symm))
      have negb597_614 : gb597 ≠ b614 := Nat.ne_of_lt (Nat.lt_of_lt_of_le f613.lt (Nat.le_of_eq g614.symm))
      have Ol615 := Ol607.ext E614
      have FserviceExceeded_614 : Fld Z h614 b614 "com/example/atropos/atropos/analysis/Admission" "serviceExceeded" "Ljava/util/List;" .null := D614 (Or.inr (ow188 hw)) (ty := (.object "java/util/List")) (by decide)
      have FrateExceeded_614 : Fld Z h614 b614 "com/example/atropos/atropos/analysis/Admission" "rateExceeded" "Ljava/util/List;" .null := D614 (Or.inr (ow190 hw)) (ty := (.object "java/util/List")) (by decide)
      have f616 := (f610.ext E614)
      have f617 := (((gs525.keep kp597 (ninS neb14_22 nin0)).keep kp605 (ninS neb14_22 (ninS gne597_b14 nin0))).ext E614)
      have f618 := (((ge525.keep kp597 (ninS neb14_22 nin0)).keep kp605 (ninS neb14_22 (ninS gne597_b14 nin0))).ext E614)
      have f619 := (((ga525.keep kp597 (ninS (Ne.symm gne510_b22) nin0)).keep kp605 (ninS (Ne.symm gne510_b22) (ninS gne597_gb510 nin0))).ext E614)
      have f620 := (f612.ext E614)
      have f621 := (f608.ext E614)
      have f622 := (f611.ext E614)
      have f623 := (gs605.ext E614)
      have f624 := (ge605.ext E614)
      have f625 := (ga605.ext E614)
      have f626 := (f613.ext E614)
      have f627 := (f609.ext E614)
      obtain ⟨_, _, ⟨T628, L628, k628, n628⟩, -, X628, ⟨Lc628, hQ628, l628, y628, z628⟩, st628⟩ := X614.specialBack hx (y := (⟨"com/example/atropos/atropos/analysis/Admission", "<init>", "(Ljava/util/List;Ljava/util/List;)V"⟩ : MethodName)) rfl hown (mvT hZ (ow91 hw)) (mvT hZ (ow92 hw)) (mvT hZ (ow93 hw)) (by decide) (backOf (W := 1) (rmadm l Z a0 hw [] b614 b14 b22 (0 : Int32) (0 : Int32) el tel kel em mr h614 n0 Ol615 A614 FserviceExceeded_614 FrateExceeded_614 gn614 (Or.inr (Or.inr (Or.inr ⟨b1, _, gb510, _, rfl, f616, f617, f618, f619, f620, f621, (ow205 hw)⟩))) (Or.inr (Or.inr (Or.inl ⟨b7, _, gb597, _, rfl, f622, f623, f624, f625, f626, f627, (ow87 hw)⟩))) Sel Sem hM Eel Fel Ael) hZ (ow93 hw) (ow90 hw) (by decide) (by decide)) (g := (mkF m 136 #[.val (.int x0), .val (.int x1), .val (.int (3 : Int32)), .val (.int (2 : Int32)), .val (.ref b1), .val (.ref b7), .val (.ref b14), .val (.ref b22), .unset, .unset] [(.ref b22), (.ref b14), (.ref b614), (.ref b614)])) rfl (by rw [hml]; rfl) (Steps.refl _) (a := b614) (argsL := [(.ref b14), (.ref b22)]) (rest := [(.ref b614)]) (lenOf pd17 rfl) rfl (by show 2 * 0 + _ ≤ _; exact Nat.le_of_eq rfl) (hb hby at_136) (fun _ _ => ⟨rfl, e614, (by decide : 7 + 6 ≤ _), (by decide : 34 + 16 ≤ _)⟩)
      dsimp only [Pt.U, Pt.locs, Pt.cells, Pt.slots] at X628 l628 y628 z628 st628 hQ628
      subst l628 y628 z628
      obtain ⟨r1628, r2628, rfl, Nq628, kp628, f1628, f2628, e1628, e2628⟩ := hQ628
      have N629 := Fr.app N606 Nq628
      have Ol630 := Ol615.keep kp628 (allS gn614 all0)
      have f632 := (A614.keep kp628)
      obtain ⟨cq631, kq631, q631a, q631b, q631c⟩ := isOf hZ rfl f632
      obtain ⟨_, _, ⟨T631, L631, k631, n631⟩, -, X631, ⟨Lc631, hQ631, l631, y631, z631⟩, st631⟩ := X628.virtualBack hx (y := (⟨"com/example/atropos/atropos/analysis/Admission", "admits", "()Z"⟩ : MethodName)) (z := (⟨"com/example/atropos/atropos/analysis/Admission", "admits", "()Z"⟩ : MethodName)) hown (mvT hZ (ow191 hw)) (mvT hZ (ow192 hw)) (notFace_of_selects (args := #[]) (mvT hZ (ow194 hw))) (mvT hZ (ow194 hw)) (mvT hZ (ow193 hw)) (by decide) (backOf (W := 0) (rmadt l Z a0 hw [] b614 r1628 r2628 (0 : Int32) (0 : Int32) T628.heap n0 Ol630 f1628 f2628 e1628 e2628) hZ (ow195 hw) (ow90 hw) (by decide) (by decide)) q631a q631c (g := (mkF m 164 #[.val (.int x0), .val (.int x1), .val (.int (3 : Int32)), .val (.int (2 : Int32)), .val (.ref b1), .val (.ref b7), .val (.ref b14), .val (.ref b22), .val (.ref b614), .val (.int (0 : Int32))] [(.ref b614)])) rfl (by rw [hml]; rfl) (Steps.refl _) (argsL := []) (rest := []) (lenOf pd12 rfl) rfl (by show 2 * 0 + _ ≤ _; exact Nat.le_of_eq rfl) (hb hby at_164) (fun _ _ => ⟨rfl, rfl, (by decide : 13 + 0 ≤ _), (by decide : 50 + 0 ≤ _)⟩)
      dsimp only [Pt.U, Pt.locs, Pt.cells, Pt.slots] at X631 l631 y631 z631 st631 hQ631
      subst l631 y631 z631
      obtain ⟨rfl, Nq631, eq631⟩ := hQ631
      have N633 := Fr.app N629 Nq631
      obtain ⟨fs, hretL, hrun, hended, hW, hsame⟩ := X631.leave (v := some (.int (1 : Int32))) (fun h => by rw [Bd.returns] at h; cases h)
      refine ⟨_, _, pre588 _ ?_, hrun, hended, _, _, rfl, ?_, ⟨_, rfl⟩, hW, hsame.mono (by decide) (by decide)⟩
      · refine XS.iloadN X525.here hx rfl (hb hby at_89) rfl ?_
        show Steps p.tables e below (T525.setTop (mkF m 90 #[.val (.int x0), .val (.int x1), .val (.int (3 : Int32)), .val (.int (2 : Int32)), .val (.ref b1), .val (.ref b7), .val (.ref b14), .val (.ref b22), .unset, .unset] [(.int (2 : Int32))])) _
        refine XS.iconst X525.here hx rfl (hb hby at_90) ?_
        show Steps p.tables e below (T525.setTop (mkF m 91 #[.val (.int x0), .val (.int x1), .val (.int (3 : Int32)), .val (.int (2 : Int32)), .val (.ref b1), .val (.ref b7), .val (.ref b14), .val (.ref b22), .unset, .unset] [(.int (1 : Int32)), (.int (2 : Int32))])) _
        refine XS.icmpNo X525.here hx rfl (hb hby at_91) rfl (flt (by decide : ¬ ((2 : Int32) < (1 : Int32)))).1 ?_
        show Steps p.tables e below (T525.setTop (mkF m 94 #[.val (.int x0), .val (.int x1), .val (.int (3 : Int32)), .val (.int (2 : Int32)), .val (.ref b1), .val (.ref b7), .val (.ref b14), .val (.ref b22), .unset, .unset] [])) _
        refine XS.aload X525.here hx rfl (hb hby at_94) rfl rfl ?_
        show Steps p.tables e below (T525.setTop (mkF m 96 #[.val (.int x0), .val (.int x1), .val (.int (3 : Int32)), .val (.int (2 : Int32)), .val (.ref b1), .val (.ref b7), .val (.ref b14), .val (.ref b22), .unset, .unset] [(.ref b22)])) _
        refine XS.aload X525.here hx rfl (hb hby at_96) rfl rfl ?_
        show Steps p.tables e below (T525.setTop (mkF m 98 #[.val (.int x0), .val (.int x1), .val (.int (3 : Int32)), .val (.int (2 : Int32)), .val (.ref b1), .val (.ref b7), .val (.ref b14), .val (.ref b22), .unset, .unset] [(.ref b7), (.ref b22)])) _
        refine st597.trans ?_
        show Steps p.tables e below (T597.setTop (mkF m 101 #[.val (.int x0), .val (.int x1), .val (.int (3 : Int32)), .val (.int (2 : Int32)), .val (.ref b1), .val (.ref b7), .val (.ref b14), .val (.ref b22), .unset, .unset] [(.int (1 : Int32))])) _
        refine XS.pop X597.here hx rfl (hb hby at_101) rfl rfl ?_
        show Steps p.tables e below (T597.setTop (mkF m 102 #[.val (.int x0), .val (.int x1), .val (.int (3 : Int32)), .val (.int (2 : Int32)), .val (.ref b1), .val (.ref b7), .val (.ref b14), .val (.ref b22), .unset, .unset] [])) _
        refine XS.iloadN X597.here hx rfl (hb hby at_102) rfl ?_
        show Steps p.tables e below (T597.setTop (mkF m 103 #[.val (.int x0), .val (.int x1), .val (.int (3 : Int32)), .val (.int (2 : Int32)), .val (.ref b1), .val (.ref b7), .val (.ref b14), .val (.ref b22), .unset, .unset] [(.int (2 : Int32))])) _
        refine XS.iconst X597.here hx rfl (hb hby at_103) ?_
        show Steps p.tables e below (T597.setTop (mkF m 104 #[.val (.int x0), .val (.int x1), .val (.int (3 : Int32)), .val (.int (2 : Int32)), .val (.ref b1), .val (.ref b7), .val (.ref b14), .val (.ref b22), .unset, .unset] [(.int (2 : Int32)), (.int (2 : Int32))])) _
        refine XS.icmpNo X597.here hx rfl (hb hby at_104) rfl (flt (by decide : ¬ ((2 : Int32) < (2 : Int32)))).1 ?_
        show Steps p.tables e below (T597.setTop (mkF m 107 #[.val (.int x0), .val (.int x1), .val (.int (3 : Int32)), .val (.int (2 : Int32)), .val (.ref b1), .val (.ref b7), .val (.ref b14), .val (.ref b22), .unset, .unset] [])) _
        refine XS.aload X597.here hx rfl (hb hby at_107) rfl rfl ?_
        show Steps p.tables e below (T597.setTop (mkF m 109 #[.val (.int x0), .val (.int x1), .val (.int (3 : Int32)), .val (.int (2 : Int32)), .val (.ref b1), .val (.ref b7), .val (.ref b14), .val (.ref b22), .unset, .unset] [(.ref b22)])) _
        refine XS.aload X597.here hx rfl (hb hby at_109) rfl rfl ?_
        show Steps p.tables e below (T597.setTop (mkF m 111 #[.val (.int x0), .val (.int x1), .val (.int (3 : Int32)), .val (.int (2 : Int32)), .val (.ref b1), .val (.ref b7), .val (.ref b14), .val (.ref b22), .unset, .unset] [(.ref b7), (.ref b22)])) _
        refine st605.trans ?_
        show Steps p.tables e below (T605.setTop (mkF m 114 #[.val (.int x0), .val (.int x1), .val (.int (3 : Int32)), .val (.int (2 : Int32)), .val (.ref b1), .val (.ref b7), .val (.ref b14), .val (.ref b22), .unset, .unset] [(.int (1 : Int32))])) _
        refine XS.pop X605.here hx rfl (hb hby at_114) rfl rfl ?_
        show Steps p.tables e below (T605.setTop (mkF m 115 #[.val (.int x0), .val (.int x1), .val (.int (3 : Int32)), .val (.int (2 : Int32)), .val (.ref b1), .val (.ref b7), .val (.ref b14), .val (.ref b22), .unset, .unset] [])) _
        refine XS.iloadN X605.here hx rfl (hb hby at_115) rfl ?_
        show Steps p.tables e below (T605.setTop (mkF m 116 #[.val (.int x0), .val (.int x1), .val (.int (3 : Int32)), .val (.int (2 : Int32)), .val (.ref b1), .val (.ref b7), .val (.ref b14), .val (.ref b22), .unset, .unset] [(.int (2 : Int32))])) _
        refine XS.iconst X605.here hx rfl (hb hby at_116) ?_
        show Steps p.tables e below (T605.setTop (mkF m 117 #[.val (.int x0), .val (.int x1), .val (.int (3 : Int32)), .val (.int (2 : Int32)), .val (.ref b1), .val (.ref b7), .val (.ref b14), .val (.ref b22), .unset, .unset] [(.int (3 : Int32)), (.int (2 : Int32))])) _
        refine XS.icmpYes X605.here hx rfl (pc0 := 117) (pc' := 128) rfl (hb hby at_117) rfl (tlt (by decide : (2 : Int32) < (3 : Int32))).1 (by decide) (by decide) ?_
        show Steps p.tables e below (T605.setTop (mkF m 128 #[.val (.int x0), .val (.int x1), .val (.int (3 : Int32)), .val (.int (2 : Int32)), .val (.ref b1), .val (.ref b7), .val (.ref b14), .val (.ref b22), .unset, .unset] [])) _
        refine st614 _ ?_
        show Steps p.tables e below (T614.setTop (mkF m 131 #[.val (.int x0), .val (.int x1), .val (.int (3 : Int32)), .val (.int (2 : Int32)), .val (.ref b1), .val (.ref b7), .val (.ref b14), .val (.ref b22), .unset, .unset] [(.ref b614)])) _
        refine XS.dup X614.here hx rfl (hb hby at_131) rfl rfl ?_
        show Steps p.tables e below (T614.setTop (mkF m 132 #[.val (.int x0), .val (.int x1), .val (.int (3 : Int32)), .val (.int (2 : Int32)), .val (.ref b1), .val (.ref b7), .val (.ref b14), .val (.ref b22), .unset, .unset] [(.ref b614), (.ref b614)])) _
        refine XS.aload X614.here hx rfl (hb hby at_132) rfl rfl ?_
        show Steps p.tables e below (T614.setTop (mkF m 134 #[.val (.int x0), .val (.int x1), .val (.int (3 : Int32)), .val (.int (2 : Int32)), .val (.ref b1), .val (.ref b7), .val (.ref b14), .val (.ref b22), .unset, .unset] [(.ref b14), (.ref b614), (.ref b614)])) _
        refine XS.aload X614.here hx rfl (hb hby at_134) rfl rfl ?_
        show Steps p.tables e below (T614.setTop (mkF m 136 #[.val (.int x0), .val (.int x1), .val (.int (3 : Int32)), .val (.int (2 : Int32)), .val (.ref b1), .val (.ref b7), .val (.ref b14), .val (.ref b22), .unset, .unset] [(.ref b22), (.ref b14), (.ref b614), (.ref b614)])) _
        refine st628.trans ?_
        show Steps p.tables e below (T628.setTop (mkF m 139 #[.val (.int x0), .val (.int x1), .val (.int (3 : Int32)), .val (.int (2 : Int32)), .val (.ref b1), .val (.ref b7), .val (.ref b14), .val (.ref b22), .unset, .unset] [(.ref b614)])) _
        refine XS.astore X628.here hx rfl (hb hby at_139) rfl rfl (l' := #[.val (.int x0), .val (.int x1), .val (.int (3 : Int32)), .val (.int (2 : Int32)), .val (.ref b1), .val (.ref b7), .val (.ref b14), .val (.ref b22), .val (.ref b614), .unset]) rfl ?_
        show Steps p.tables e below (T628.setTop (mkF m 141 #[.val (.int x0), .val (.int x1), .val (.int (3 : Int32)), .val (.int (2 : Int32)), .val (.ref b1), .val (.ref b7), .val (.ref b14), .val (.ref b22), .val (.ref b614), .unset] [])) _
        refine XS.iloadN X628.here hx rfl (hb hby at_141) rfl ?_
        show Steps p.tables e below (T628.setTop (mkF m 142 #[.val (.int x0), .val (.int x1), .val (.int (3 : Int32)), .val (.int (2 : Int32)), .val (.ref b1), .val (.ref b7), .val (.ref b14), .val (.ref b22), .val (.ref b614), .unset] [(.int (3 : Int32))])) _
        refine XS.ifYes X628.here hx rfl (pc0 := 142) (pc' := 159) rfl (hb hby at_142) rfl ((if0 _ _).trans (feq (by decide : ¬ ((3 : Int32) = (0 : Int32)))).2) (by decide) (by decide) ?_
        show Steps p.tables e below (T628.setTop (mkF m 159 #[.val (.int x0), .val (.int x1), .val (.int (3 : Int32)), .val (.int (2 : Int32)), .val (.ref b1), .val (.ref b7), .val (.ref b14), .val (.ref b22), .val (.ref b614), .unset] [])) _
        refine XS.iconst X628.here hx rfl (hb hby at_159) ?_
        show Steps p.tables e below (T628.setTop (mkF m 160 #[.val (.int x0), .val (.int x1), .val (.int (3 : Int32)), .val (.int (2 : Int32)), .val (.ref b1), .val (.ref b7), .val (.ref b14), .val (.ref b22), .val (.ref b614), .unset] [(.int (0 : Int32))])) _
        refine XS.istore X628.here hx rfl (hb hby at_160) rfl (l' := #[.val (.int x0), .val (.int x1), .val (.int (3 : Int32)), .val (.int (2 : Int32)), .val (.ref b1), .val (.ref b7), .val (.ref b14), .val (.ref b22), .val (.ref b614), .val (.int (0 : Int32))]) rfl ?_
        show Steps p.tables e below (T628.setTop (mkF m 162 #[.val (.int x0), .val (.int x1), .val (.int (3 : Int32)), .val (.int (2 : Int32)), .val (.ref b1), .val (.ref b7), .val (.ref b14), .val (.ref b22), .val (.ref b614), .val (.int (0 : Int32))] [])) _
        refine XS.aload X628.here hx rfl (hb hby at_162) rfl rfl ?_
        show Steps p.tables e below (T628.setTop (mkF m 164 #[.val (.int x0), .val (.int x1), .val (.int (3 : Int32)), .val (.int (2 : Int32)), .val (.ref b1), .val (.ref b7), .val (.ref b14), .val (.ref b22), .val (.ref b614), .val (.int (0 : Int32))] [(.ref b614)])) _
        refine st631.trans ?_
        show Steps p.tables e below (T631.setTop (mkF m 167 #[.val (.int x0), .val (.int x1), .val (.int (3 : Int32)), .val (.int (2 : Int32)), .val (.ref b1), .val (.ref b7), .val (.ref b14), .val (.ref b22), .val (.ref b614), .val (.int (0 : Int32))] [(.int (adm (0 : Int32) (0 : Int32)))])) _
        refine XS.iload X631.here hx rfl (hb hby at_167) rfl ?_
        show Steps p.tables e below (T631.setTop (mkF m 169 #[.val (.int x0), .val (.int x1), .val (.int (3 : Int32)), .val (.int (2 : Int32)), .val (.ref b1), .val (.ref b7), .val (.ref b14), .val (.ref b22), .val (.ref b614), .val (.int (0 : Int32))] [(.int (0 : Int32)), (.int (adm (0 : Int32) (0 : Int32)))])) _
        refine XS.icmpNo X631.here hx rfl (hb hby at_169) rfl (teq (by decide)).2 ?_
        show Steps p.tables e below (T631.setTop (mkF m 172 #[.val (.int x0), .val (.int x1), .val (.int (3 : Int32)), .val (.int (2 : Int32)), .val (.ref b1), .val (.ref b7), .val (.ref b14), .val (.ref b22), .val (.ref b614), .val (.int (0 : Int32))] [])) _
        refine XS.iconst X631.here hx rfl (hb hby at_172) ?_
        show Steps p.tables e below (T631.setTop (mkF m 173 #[.val (.int x0), .val (.int x1), .val (.int (3 : Int32)), .val (.int (2 : Int32)), .val (.ref b1), .val (.ref b7), .val (.ref b14), .val (.ref b22), .val (.ref b614), .val (.int (0 : Int32))] [(.int (1 : Int32))])) _
        refine XS.goto X631.here hx rfl (pc0 := 173) (pc' := 177) rfl (hb hby at_173) (by decide) (by decide) ?_
        show Steps p.tables e below (T631.setTop (mkF m 177 #[.val (.int x0), .val (.int x1), .val (.int (3 : Int32)), .val (.int (2 : Int32)), .val (.ref b1), .val (.ref b7), .val (.ref b14), .val (.ref b22), .val (.ref b614), .val (.int (0 : Int32))] [(.int (1 : Int32))])) _
        exact retOut X631 hx Bd.returns rfl (Or.inl ⟨rfl, Or.inr (Or.inl rfl), _, rfl⟩) (hb hby at_177) hretL
      · show Q_rm0 Z x0 x1 de kde el tel kel em mr h0 n0 _ T631.heap _
        rw [eq631]
        exact ⟨rfl, N633⟩
    · have pre634 : ∀ tgt, Steps p.tables e below (T525.setTop (mkF m 89 #[.val (.int x0), .val (.int x1), .val (.int (3 : Int32)), .val (.int (3 : Int32)), .val (.ref b1), .val (.ref b7), .val (.ref b14), .val (.ref b22), .unset, .unset] [])) tgt → Steps p.tables e below (s₁.setTop (entryFrame m #[(.int x0), (.int x1)] maxLocals)) tgt := by
        have q := pre528
        rw [hqx1] at q
        exact q
      have f635 := (f523.keep kp525)
      have f636 := (((gm24.keep kp510 (ninS (Ne.symm neb14_22) nin0)).keep kp517 (ninS (Ne.symm neb14_22) (ninS gne510_b22 nin0))).keep kp525 (ninS (Ne.symm neb14_22) (ninS gne510_b22 nin0)))
      have f637 := (((gs24.keep kp510 (ninS (Ne.symm neb14_22) nin0)).keep kp517 (ninS (Ne.symm neb14_22) (ninS gne510_b22 nin0))).keep kp525 (ninS (Ne.symm neb14_22) (ninS gne510_b22 nin0)))
      have f638 := (((ge24.keep kp510 (ninS (Ne.symm neb14_22) nin0)).keep kp517 (ninS (Ne.symm neb14_22) (ninS gne510_b22 nin0))).keep kp525 (ninS (Ne.symm neb14_22) (ninS gne510_b22 nin0)))
      have f639 := (f522.keep kp525)
      have f640 := (f521.keep kp525)
      have f641 := (f520.keep kp525)
      have f642 := (f524.keep kp525)
      obtain ⟨cq643, kq643, q643a, q643b, q643c⟩ := isOf hZ rfl f635
      obtain ⟨_, _, ⟨T643, L643, k643, n643⟩, -, X643, ⟨Lc643, hQ643, l643, y643, z643⟩, st643⟩ := X525.virtualBack hx (y := (⟨"java/util/ArrayList", "add", "(Ljava/lang/Object;)Z"⟩ : MethodName)) (z := (⟨"java/util/ArrayList", "add", "(Ljava/lang/Object;)Z"⟩ : MethodName)) hown (mvT hZ (ow57 hw)) (mvT hZ (ow58 hw)) (notFace_of_selects (args := #[]) (mvT hZ (ow60 hw))) (mvT hZ (ow60 hw)) (mvT hZ (ow59 hw)) (by decide) (backOf (W := 0) (rmad0 l Z a0 hw [] b22 b7 de kde (0 : Int32) "com/example/atropos/atropos/ops/Excess$Rate" T525.heap n0 Ol527 Sde Ade f635 f636 f637 f638 gn22 f639 (ow87 hw)) hZ (ow61 hw) (ow35 hw) (by decide) (by decide)) q643a q643c (g := (mkF m 98 #[.val (.int x0), .val (.int x1), .val (.int (3 : Int32)), .val (.int (3 : Int32)), .val (.ref b1), .val (.ref b7), .val (.ref b14), .val (.ref b22), .unset, .unset] [(.ref b7), (.ref b22)])) rfl (by rw [hml]; rfl) (Steps.refl _) (argsL := [(.ref b7)]) (rest := []) (lenOf pd18 rfl) rfl (by show 2 * 0 + _ ≤ _; exact Nat.le_of_eq rfl) (hb hby at_98) (fun _ _ => ⟨rfl, rfl, (by decide : 5 + 1 ≤ _), (by decide : 22 + 10 ≤ _)⟩)
      dsimp only [Pt.U, Pt.locs, Pt.cells, Pt.slots] at X643 l643 y643 z643 st643 hQ643
      subst l643 y643 z643
      obtain ⟨gb643, gk643, rfl, Nq643, kp643, gg643, gz643, go643, gE643, gm643, gs643, ge643, ga643⟩ := hQ643
      have N644 := Fr.app N526 Nq643
      have Ol645 := Ol527.keep kp643 (allS gn22 all0)
      have gne643_b1 : b1 ≠ gb643 := Nat.ne_of_lt (Nat.lt_of_lt_of_le f640.lt gz643)
      have gne643_b7 : b7 ≠ gb643 := Nat.ne_of_lt (Nat.lt_of_lt_of_le f639.lt gz643)
      have gne643_b14 : b14 ≠ gb643 := Nat.ne_of_lt (Nat.lt_of_lt_of_le f641.lt gz643)
      have gne643_b22 : b22 ≠ gb643 := Nat.ne_of_lt (Nat.lt_of_lt_of_le f635.lt gz643)
      have gne643_gb510 : gb510 ≠ gb643 := Nat.ne_of_lt (Nat.lt_of_lt_of_le f642.lt gz643)
      have f646 := (f635.keep kp643)
      have f647 := (f639.keep kp643)
      have f648 := (f640.keep kp643)
      have f649 := (f641.keep kp643)
      have f650 := (f642.keep kp643)
      obtain ⟨cq651, kq651, q651a, q651b, q651c⟩ := isOf hZ rfl f646
      obtain ⟨_, _, ⟨T651, L651, k651, n651⟩, -, X651, ⟨Lc651, hQ651, l651, y651, z651⟩, st651⟩ := X643.virtualBack hx (y := (⟨"java/util/ArrayList", "add", "(Ljava/lang/Object;)Z"⟩ : MethodName)) (z := (⟨"java/util/ArrayList", "add", "(Ljava/lang/Object;)Z"⟩ : MethodName)) hown (mvT hZ (ow57 hw)) (mvT hZ (ow58 hw)) (notFace_of_selects (args := #[]) (mvT hZ (ow60 hw))) (mvT hZ (ow60 hw)) (mvT hZ (ow59 hw)) (by decide) (backOf (W := 0) (rmad1 l Z a0 hw [] b22 b7 ((0 : Int32) + (1 : Int32)) gb643 gk643 "com/example/atropos/atropos/ops/Excess$Rate" T643.heap n0 Ol645 ga643 go643 gg643 gne643_b22 f646 gm643 gs643 ge643 gn22 f647 (ow87 hw)) hZ (ow61 hw) (ow35 hw) (by decide) (by decide)) q651a q651c (g := (mkF m 111 #[.val (.int x0), .val (.int x1), .val (.int (3 : Int32)), .val (.int (3 : Int32)), .val (.ref b1), .val (.ref b7), .val (.ref b14), .val (.ref b22), .unset, .unset] [(.ref b7), (.ref b22)])) rfl (by rw [hml]; rfl) (Steps.refl _) (argsL := [(.ref b7)]) (rest := []) (lenOf pd18 rfl) rfl (by show 2 * 0 + _ ≤ _; exact Nat.le_of_eq rfl) (hb hby at_111) (fun _ _ => ⟨rfl, rfl, (by decide : 6 + 0 ≤ _), (by decide : 32 + 0 ≤ _)⟩)
      dsimp only [Pt.U, Pt.locs, Pt.cells, Pt.slots] at X651 l651 y651 z651 st651 hQ651
      subst l651 y651 z651
      obtain ⟨rfl, Nq651, kp651, gm651, gs651, ge651, ga651⟩ := hQ651
      have N652 := Fr.app N644 Nq651
      have Ol653 := Ol645.keep kp651 (allS gn22 (allS gg643 all0))
      have f654 := (f646.keep kp651)
      have f655 := (f647.keep kp651)
      have f656 := (f648.keep kp651)
      have f657 := (f649.keep kp651)
      have f658 := (f650.keep kp651)
      have f659 := (gE643.keep kp651)
      obtain ⟨cq660, kq660, q660a, q660b, q660c⟩ := isOf hZ rfl f654
      obtain ⟨_, _, ⟨T660, L660, k660, n660⟩, -, X660, ⟨Lc660, hQ660, l660, y660, z660⟩, st660⟩ := X651.virtualBack hx (y := (⟨"java/util/ArrayList", "add", "(Ljava/lang/Object;)Z"⟩ : MethodName)) (z := (⟨"java/util/ArrayList", "add", "(Ljava/lang/Object;)Z"⟩ : MethodName)) hown (mvT hZ (ow57 hw)) (mvT hZ (ow58 hw)) (notFace_of_selects (args := #[]) (mvT hZ (ow60 hw))) (mvT hZ (ow60 hw)) (mvT hZ (ow59 hw)) (by decide) (backOf (W := 0) (rmad2 l Z a0 hw [] b22 b7 (((0 : Int32) + (1 : Int32)) + (1 : Int32)) gb643 gk643 "com/example/atropos/atropos/ops/Excess$Rate" T651.heap n0 Ol653 ga651 go643 gg643 gne643_b22 f654 gm651 gs651 ge651 gn22 f655 (ow87 hw)) hZ (ow61 hw) (ow35 hw) (by decide) (by decide)) q660a q660c (g := (mkF m 124 #[.val (.int x0), .val (.int x1), .val (.int (3 : Int32)), .val (.int (3 : Int32)), .val (.ref b1), .val (.ref b7), .val (.ref b14), .val (.ref b22), .unset, .unset] [(.ref b7), (.ref b22)])) rfl (by rw [hml]; rfl) (Steps.refl _) (argsL := [(.ref b7)]) (rest := []) (lenOf pd18 rfl) rfl (by show 2 * 0 + _ ≤ _; exact Nat.le_of_eq rfl) (hb hby at_124) (fun _ _ => ⟨rfl, rfl, (by decide : 6 + 0 ≤ _), (by decide : 32 + 0 ≤ _)⟩)
      dsimp only [Pt.U, Pt.locs, Pt.cells, Pt.slots] at X660 l660 y660 z660 st660 hQ660
      subst l660 y660 z660
      obtain ⟨rfl, Nq660, kp660, gm660, gs660, ge660, ga660⟩ := hQ660
      have N661 := Fr.app N652 Nq660
      have Ol662 := Ol653.keep kp660 (allS gn22 (allS gg643 all0))
      have f663 := (f656.keep kp660)
      have f664 := (f655.keep kp660)
      have f665 := (f657.keep kp660)
      have f666 := (f654.keep kp660)
      have f667 := (f658.keep kp660)
      have f668 := (f659.keep kp660)
      obtain ⟨T669, h669, X669, e669, E669, A669, D669, U669, st669⟩ := newO X660 hx hZ hown (ow88 hw) (ow89 hw) (ow90 hw) rfl (g := (mkF m 128 #[.val (.int x0), .val (.int x1), .val (.int (3 : Int32)), .val (.int (3 : Int32)), .val (.ref b1), .val (.ref b7), .val (.ref b14), .val (.ref b22), .unset, .unset] [])) rfl (hb hby at_128) (by decide) (by decide)
      obtain ⟨b669, g669⟩ : ∃ z, z = T660.heap.size := ⟨_, rfl⟩
      rw [← g669] at A669 D669 U669 st669
      have gn669 : n0 ≤ b669 := Nat.le_trans (own_sz Ol662) (Nat.le_of_eq g669.symm)
      have neb1_669 : b1 ≠ b669 := Nat.ne_of_lt (Nat.lt_of_lt_of_le f663.lt (Nat.le_of_eq g669.symm))
      have neb7_669 : b7 ≠ b669 := Nat.ne_of_lt (Nat.lt_of_lt_of_le f664.lt (Nat.le_of_eq g669.symm))
      have neb14_669 : b14 ≠ b669 := Nat.ne_of_lt (Nat.lt_of_lt_of_le f665.lt (Nat.le_of_eq g669.symm))
      have neb22_669 : b22 ≠ b669 := Nat.ne_of_lt (Nat.lt_of_lt_of_le f666.lt (Nat.le_of_eq g669.symm))
      have negb510_669 : gb510 ≠ b669 := Nat.ne_of_lt (Nat.lt_of_lt_of_le f667.lt (Nat.le_of_eq g669.symm))
      have negb643_669 : gb643 ≠ b669 := Nat.ne_of_lt (Nat.lt_of_lt_of_le f668.lt (Nat.le_of_eq g669.symm))
      have Ol670 := Ol662.ext E669
      have FserviceExceeded_669 : Fld Z h669 b669 "com/example/atropos/atropos/analysis/Admission" "serviceExceeded" "Ljava/util/List;" .null := D669 (Or.inr (ow188 hw)) (ty := (.object "java/util/List")) (by decide)
      have FrateExceeded_669 : Fld Z h669 b669 "com/example/atropos/atropos/analysis/Admission" "rateExceeded" "Ljava/util/List;" .null := D669 (Or.inr (ow190 hw)) (ty := (.object "java/util/List")) (by decide)
      have f671 := (f665.ext E669)
      have f672 := ((((gs525.keep kp643 (ninS neb14_22 nin0)).keep kp651 (ninS neb14_22 (ninS gne643_b14 nin0))).keep kp660 (ninS neb14_22 (ninS gne643_b14 nin0))).ext E669)
      have f673 := ((((ge525.keep kp643 (ninS neb14_22 nin0)).keep kp651 (ninS neb14_22 (ninS gne643_b14 nin0))).keep kp660 (ninS neb14_22 (ninS gne643_b14 nin0))).ext E669)
      have f674 := ((((ga525.keep kp643 (ninS (Ne.symm gne510_b22) nin0)).keep kp651 (ninS (Ne.symm gne510_b22) (ninS gne643_gb510 nin0))).keep kp660 (ninS (Ne.symm gne510_b22) (ninS gne643_gb510 nin0))).ext E669)
      have f675 := (f667.ext E669)
      have f676 := (f663.ext E669)
      have f677 := (f666.ext E669)
      have f678 := (gs660.ext E669)
      have f679 := (ge660.ext E669)
      have f680 := (ga660.ext E669)
      have f681 := (f668.ext E669)
      have f682 := (f664.ext E669)
      obtain ⟨_, _, ⟨T683, L683, k683, n683⟩, -, X683, ⟨Lc683, hQ683, l683, y683, z683⟩, st683⟩ := X669.specialBack hx (y := (⟨"com/example/atropos/atropos/analysis/Admission", "<init>", "(Ljava/util/List;Ljava/util/List;)V"⟩ : MethodName)) rfl hown (mvT hZ (ow91 hw)) (mvT hZ (ow92 hw)) (mvT hZ (ow93 hw)) (by decide) (backOf (W := 1) (rmadm l Z a0 hw [] b669 b14 b22 (0 : Int32) (0 : Int32) el tel kel em mr h669 n0 Ol670 A669 FserviceExceeded_669 FrateExceeded_669 gn669 (Or.inr (Or.inr (Or.inr ⟨b1, _, gb510, _, rfl, f671, f672, f673, f674, f675, f676, (ow205 hw)⟩))) (Or.inr (Or.inr (Or.inr ⟨b7, _, gb643, _, rfl, f677, f678, f679, f680, f681, f682, (ow87 hw)⟩))) Sel Sem hM Eel Fel Ael) hZ (ow93 hw) (ow90 hw) (by decide) (by decide)) (g := (mkF m 136 #[.val (.int x0), .val (.int x1), .val (.int (3 : Int32)), .val (.int (3 : Int32)), .val (.ref b1), .val (.ref b7), .val (.ref b14), .val (.ref b22), .unset, .unset] [(.ref b22), (.ref b14), (.ref b669), (.ref b669)])) rfl (by rw [hml]; rfl) (Steps.refl _) (a := b669) (argsL := [(.ref b14), (.ref b22)]) (rest := [(.ref b669)]) (lenOf pd17 rfl) rfl (by show 2 * 0 + _ ≤ _; exact Nat.le_of_eq rfl) (hb hby at_136) (fun _ _ => ⟨rfl, e669, (by decide : 7 + 6 ≤ _), (by decide : 34 + 16 ≤ _)⟩)
      dsimp only [Pt.U, Pt.locs, Pt.cells, Pt.slots] at X683 l683 y683 z683 st683 hQ683
      subst l683 y683 z683
      obtain ⟨r1683, r2683, rfl, Nq683, kp683, f1683, f2683, e1683, e2683⟩ := hQ683
      have N684 := Fr.app N661 Nq683
      have Ol685 := Ol670.keep kp683 (allS gn669 all0)
      have f687 := (A669.keep kp683)
      obtain ⟨cq686, kq686, q686a, q686b, q686c⟩ := isOf hZ rfl f687
      obtain ⟨_, _, ⟨T686, L686, k686, n686⟩, -, X686, ⟨Lc686, hQ686, l686, y686, z686⟩, st686⟩ := X683.virtualBack hx (y := (⟨"com/example/atropos/atropos/analysis/Admission", "admits", "()Z"⟩ : MethodName)) (z := (⟨"com/example/atropos/atropos/analysis/Admission", "admits", "()Z"⟩ : MethodName)) hown (mvT hZ (ow191 hw)) (mvT hZ (ow192 hw)) (notFace_of_selects (args := #[]) (mvT hZ (ow194 hw))) (mvT hZ (ow194 hw)) (mvT hZ (ow193 hw)) (by decide) (backOf (W := 0) (rmadt l Z a0 hw [] b669 r1683 r2683 (0 : Int32) (0 : Int32) T683.heap n0 Ol685 f1683 f2683 e1683 e2683) hZ (ow195 hw) (ow90 hw) (by decide) (by decide)) q686a q686c (g := (mkF m 164 #[.val (.int x0), .val (.int x1), .val (.int (3 : Int32)), .val (.int (3 : Int32)), .val (.ref b1), .val (.ref b7), .val (.ref b14), .val (.ref b22), .val (.ref b669), .val (.int (0 : Int32))] [(.ref b669)])) rfl (by rw [hml]; rfl) (Steps.refl _) (argsL := []) (rest := []) (lenOf pd12 rfl) rfl (by show 2 * 0 + _ ≤ _; exact Nat.le_of_eq rfl) (hb hby at_164) (fun _ _ => ⟨rfl, rfl, (by decide : 13 + 0 ≤ _), (by decide : 50 + 0 ≤ _)⟩)
      dsimp only [Pt.U, Pt.locs, Pt.cells, Pt.slots] at X686 l686 y686 z686 st686 hQ686
      subst l686 y686 z686
      obtain ⟨rfl, Nq686, eq686⟩ := hQ686
      have N688 := Fr.app N684 Nq686
      obtain ⟨fs, hretL, hrun, hended, hW, hsame⟩ := X686.leave (v := some (.int (1 : Int32))) (fun h => by rw [Bd.returns] at h; cases h)
      refine ⟨_, _, pre634 _ ?_, hrun, hended, _, _, rfl, ?_, ⟨_, rfl⟩, hW, hsame.mono (by decide) (by decide)⟩
      · refine XS.iloadN X525.here hx rfl (hb hby at_89) rfl ?_
        show Steps p.tables e below (T525.setTop (mkF m 90 #[.val (.int x0), .val (.int x1), .val (.int (3 : Int32)), .val (.int (3 : Int32)), .val (.ref b1), .val (.ref b7), .val (.ref b14), .val (.ref b22), .unset, .unset] [(.int (3 : Int32))])) _
        refine XS.iconst X525.here hx rfl (hb hby at_90) ?_
        show Steps p.tables e below (T525.setTop (mkF m 91 #[.val (.int x0), .val (.int x1), .val (.int (3 : Int32)), .val (.int (3 : Int32)), .val (.ref b1), .val (.ref b7), .val (.ref b14), .val (.ref b22), .unset, .unset] [(.int (1 : Int32)), (.int (3 : Int32))])) _
        refine XS.icmpNo X525.here hx rfl (hb hby at_91) rfl (flt (by decide : ¬ ((3 : Int32) < (1 : Int32)))).1 ?_
        show Steps p.tables e below (T525.setTop (mkF m 94 #[.val (.int x0), .val (.int x1), .val (.int (3 : Int32)), .val (.int (3 : Int32)), .val (.ref b1), .val (.ref b7), .val (.ref b14), .val (.ref b22), .unset, .unset] [])) _
        refine XS.aload X525.here hx rfl (hb hby at_94) rfl rfl ?_
        show Steps p.tables e below (T525.setTop (mkF m 96 #[.val (.int x0), .val (.int x1), .val (.int (3 : Int32)), .val (.int (3 : Int32)), .val (.ref b1), .val (.ref b7), .val (.ref b14), .val (.ref b22), .unset, .unset] [(.ref b22)])) _
        refine XS.aload X525.here hx rfl (hb hby at_96) rfl rfl ?_
        show Steps p.tables e below (T525.setTop (mkF m 98 #[.val (.int x0), .val (.int x1), .val (.int (3 : Int32)), .val (.int (3 : Int32)), .val (.ref b1), .val (.ref b7), .val (.ref b14), .val (.ref b22), .unset, .unset] [(.ref b7), (.ref b22)])) _
        refine st643.trans ?_
        show Steps p.tables e below (T643.setTop (mkF m 101 #[.val (.int x0), .val (.int x1), .val (.int (3 : Int32)), .val (.int (3 : Int32)), .val (.ref b1), .val (.ref b7), .val (.ref b14), .val (.ref b22), .unset, .unset] [(.int (1 : Int32))])) _
        refine XS.pop X643.here hx rfl (hb hby at_101) rfl rfl ?_
        show Steps p.tables e below (T643.setTop (mkF m 102 #[.val (.int x0), .val (.int x1), .val (.int (3 : Int32)), .val (.int (3 : Int32)), .val (.ref b1), .val (.ref b7), .val (.ref b14), .val (.ref b22), .unset, .unset] [])) _
        refine XS.iloadN X643.here hx rfl (hb hby at_102) rfl ?_
        show Steps p.tables e below (T643.setTop (mkF m 103 #[.val (.int x0), .val (.int x1), .val (.int (3 : Int32)), .val (.int (3 : Int32)), .val (.ref b1), .val (.ref b7), .val (.ref b14), .val (.ref b22), .unset, .unset] [(.int (3 : Int32))])) _
        refine XS.iconst X643.here hx rfl (hb hby at_103) ?_
        show Steps p.tables e below (T643.setTop (mkF m 104 #[.val (.int x0), .val (.int x1), .val (.int (3 : Int32)), .val (.int (3 : Int32)), .val (.ref b1), .val (.ref b7), .val (.ref b14), .val (.ref b22), .unset, .unset] [(.int (2 : Int32)), (.int (3 : Int32))])) _
        refine XS.icmpNo X643.here hx rfl (hb hby at_104) rfl (flt (by decide : ¬ ((3 : Int32) < (2 : Int32)))).1 ?_
        show Steps p.tables e below (T643.setTop (mkF m 107 #[.val (.int x0), .val (.int x1), .val (.int (3 : Int32)), .val (.int (3 : Int32)), .val (.ref b1), .val (.ref b7), .val (.ref b14), .val (.ref b22), .unset, .unset] [])) _
        refine XS.aload X643.here hx rfl (hb hby at_107) rfl rfl ?_
        show Steps p.tables e below (T643.setTop (mkF m 109 #[.val (.int x0), .val (.int x1), .val (.int (3 : Int32)), .val (.int (3 : Int32)), .val (.ref b1), .val (.ref b7), .val (.ref b14), .val (.ref b22), .unset, .unset] [(.ref b22)])) _
        refine XS.aload X643.here hx rfl (hb hby at_109) rfl rfl ?_
        show Steps p.tables e below (T643.setTop (mkF m 111 #[.val (.int x0), .val (.int x1), .val (.int (3 : Int32)), .val (.int (3 : Int32)), .val (.ref b1), .val (.ref b7), .val (.ref b14), .val (.ref b22), .unset, .unset] [(.ref b7), (.ref b22)])) _
        refine st651.trans ?_
        show Steps p.tables e below (T651.setTop (mkF m 114 #[.val (.int x0), .val (.int x1), .val (.int (3 : Int32)), .val (.int (3 : Int32)), .val (.ref b1), .val (.ref b7), .val (.ref b14), .val (.ref b22), .unset, .unset] [(.int (1 : Int32))])) _
        refine XS.pop X651.here hx rfl (hb hby at_114) rfl rfl ?_
        show Steps p.tables e below (T651.setTop (mkF m 115 #[.val (.int x0), .val (.int x1), .val (.int (3 : Int32)), .val (.int (3 : Int32)), .val (.ref b1), .val (.ref b7), .val (.ref b14), .val (.ref b22), .unset, .unset] [])) _
        refine XS.iloadN X651.here hx rfl (hb hby at_115) rfl ?_
        show Steps p.tables e below (T651.setTop (mkF m 116 #[.val (.int x0), .val (.int x1), .val (.int (3 : Int32)), .val (.int (3 : Int32)), .val (.ref b1), .val (.ref b7), .val (.ref b14), .val (.ref b22), .unset, .unset] [(.int (3 : Int32))])) _
        refine XS.iconst X651.here hx rfl (hb hby at_116) ?_
        show Steps p.tables e below (T651.setTop (mkF m 117 #[.val (.int x0), .val (.int x1), .val (.int (3 : Int32)), .val (.int (3 : Int32)), .val (.ref b1), .val (.ref b7), .val (.ref b14), .val (.ref b22), .unset, .unset] [(.int (3 : Int32)), (.int (3 : Int32))])) _
        refine XS.icmpNo X651.here hx rfl (hb hby at_117) rfl (flt (by decide : ¬ ((3 : Int32) < (3 : Int32)))).1 ?_
        show Steps p.tables e below (T651.setTop (mkF m 120 #[.val (.int x0), .val (.int x1), .val (.int (3 : Int32)), .val (.int (3 : Int32)), .val (.ref b1), .val (.ref b7), .val (.ref b14), .val (.ref b22), .unset, .unset] [])) _
        refine XS.aload X651.here hx rfl (hb hby at_120) rfl rfl ?_
        show Steps p.tables e below (T651.setTop (mkF m 122 #[.val (.int x0), .val (.int x1), .val (.int (3 : Int32)), .val (.int (3 : Int32)), .val (.ref b1), .val (.ref b7), .val (.ref b14), .val (.ref b22), .unset, .unset] [(.ref b22)])) _
        refine XS.aload X651.here hx rfl (hb hby at_122) rfl rfl ?_
        show Steps p.tables e below (T651.setTop (mkF m 124 #[.val (.int x0), .val (.int x1), .val (.int (3 : Int32)), .val (.int (3 : Int32)), .val (.ref b1), .val (.ref b7), .val (.ref b14), .val (.ref b22), .unset, .unset] [(.ref b7), (.ref b22)])) _
        refine st660.trans ?_
        show Steps p.tables e below (T660.setTop (mkF m 127 #[.val (.int x0), .val (.int x1), .val (.int (3 : Int32)), .val (.int (3 : Int32)), .val (.ref b1), .val (.ref b7), .val (.ref b14), .val (.ref b22), .unset, .unset] [(.int (1 : Int32))])) _
        refine XS.pop X660.here hx rfl (hb hby at_127) rfl rfl ?_
        show Steps p.tables e below (T660.setTop (mkF m 128 #[.val (.int x0), .val (.int x1), .val (.int (3 : Int32)), .val (.int (3 : Int32)), .val (.ref b1), .val (.ref b7), .val (.ref b14), .val (.ref b22), .unset, .unset] [])) _
        refine st669 _ ?_
        show Steps p.tables e below (T669.setTop (mkF m 131 #[.val (.int x0), .val (.int x1), .val (.int (3 : Int32)), .val (.int (3 : Int32)), .val (.ref b1), .val (.ref b7), .val (.ref b14), .val (.ref b22), .unset, .unset] [(.ref b669)])) _
        refine XS.dup X669.here hx rfl (hb hby at_131) rfl rfl ?_
        show Steps p.tables e below (T669.setTop (mkF m 132 #[.val (.int x0), .val (.int x1), .val (.int (3 : Int32)), .val (.int (3 : Int32)), .val (.ref b1), .val (.ref b7), .val (.ref b14), .val (.ref b22), .unset, .unset] [(.ref b669), (.ref b669)])) _
        refine XS.aload X669.here hx rfl (hb hby at_132) rfl rfl ?_
        show Steps p.tables e below (T669.setTop (mkF m 134 #[.val (.int x0), .val (.int x1), .val (.int (3 : Int32)), .val (.int (3 : Int32)), .val (.ref b1), .val (.ref b7), .val (.ref b14), .val (.ref b22), .unset, .unset] [(.ref b14), (.ref b669), (.ref b669)])) _
        refine XS.aload X669.here hx rfl (hb hby at_134) rfl rfl ?_
        show Steps p.tables e below (T669.setTop (mkF m 136 #[.val (.int x0), .val (.int x1), .val (.int (3 : Int32)), .val (.int (3 : Int32)), .val (.ref b1), .val (.ref b7), .val (.ref b14), .val (.ref b22), .unset, .unset] [(.ref b22), (.ref b14), (.ref b669), (.ref b669)])) _
        refine st683.trans ?_
        show Steps p.tables e below (T683.setTop (mkF m 139 #[.val (.int x0), .val (.int x1), .val (.int (3 : Int32)), .val (.int (3 : Int32)), .val (.ref b1), .val (.ref b7), .val (.ref b14), .val (.ref b22), .unset, .unset] [(.ref b669)])) _
        refine XS.astore X683.here hx rfl (hb hby at_139) rfl rfl (l' := #[.val (.int x0), .val (.int x1), .val (.int (3 : Int32)), .val (.int (3 : Int32)), .val (.ref b1), .val (.ref b7), .val (.ref b14), .val (.ref b22), .val (.ref b669), .unset]) rfl ?_
        show Steps p.tables e below (T683.setTop (mkF m 141 #[.val (.int x0), .val (.int x1), .val (.int (3 : Int32)), .val (.int (3 : Int32)), .val (.ref b1), .val (.ref b7), .val (.ref b14), .val (.ref b22), .val (.ref b669), .unset] [])) _
        refine XS.iloadN X683.here hx rfl (hb hby at_141) rfl ?_
        show Steps p.tables e below (T683.setTop (mkF m 142 #[.val (.int x0), .val (.int x1), .val (.int (3 : Int32)), .val (.int (3 : Int32)), .val (.ref b1), .val (.ref b7), .val (.ref b14), .val (.ref b22), .val (.ref b669), .unset] [(.int (3 : Int32))])) _
        refine XS.ifYes X683.here hx rfl (pc0 := 142) (pc' := 159) rfl (hb hby at_142) rfl ((if0 _ _).trans (feq (by decide : ¬ ((3 : Int32) = (0 : Int32)))).2) (by decide) (by decide) ?_
        show Steps p.tables e below (T683.setTop (mkF m 159 #[.val (.int x0), .val (.int x1), .val (.int (3 : Int32)), .val (.int (3 : Int32)), .val (.ref b1), .val (.ref b7), .val (.ref b14), .val (.ref b22), .val (.ref b669), .unset] [])) _
        refine XS.iconst X683.here hx rfl (hb hby at_159) ?_
        show Steps p.tables e below (T683.setTop (mkF m 160 #[.val (.int x0), .val (.int x1), .val (.int (3 : Int32)), .val (.int (3 : Int32)), .val (.ref b1), .val (.ref b7), .val (.ref b14), .val (.ref b22), .val (.ref b669), .unset] [(.int (0 : Int32))])) _
        refine XS.istore X683.here hx rfl (hb hby at_160) rfl (l' := #[.val (.int x0), .val (.int x1), .val (.int (3 : Int32)), .val (.int (3 : Int32)), .val (.ref b1), .val (.ref b7), .val (.ref b14), .val (.ref b22), .val (.ref b669), .val (.int (0 : Int32))]) rfl ?_
        show Steps p.tables e below (T683.setTop (mkF m 162 #[.val (.int x0), .val (.int x1), .val (.int (3 : Int32)), .val (.int (3 : Int32)), .val (.ref b1), .val (.ref b7), .val (.ref b14), .val (.ref b22), .val (.ref b669), .val (.int (0 : Int32))] [])) _
        refine XS.aload X683.here hx rfl (hb hby at_162) rfl rfl ?_
        show Steps p.tables e below (T683.setTop (mkF m 164 #[.val (.int x0), .val (.int x1), .val (.int (3 : Int32)), .val (.int (3 : Int32)), .val (.ref b1), .val (.ref b7), .val (.ref b14), .val (.ref b22), .val (.ref b669), .val (.int (0 : Int32))] [(.ref b669)])) _
        refine st686.trans ?_
        show Steps p.tables e below (T686.setTop (mkF m 167 #[.val (.int x0), .val (.int x1), .val (.int (3 : Int32)), .val (.int (3 : Int32)), .val (.ref b1), .val (.ref b7), .val (.ref b14), .val (.ref b22), .val (.ref b669), .val (.int (0 : Int32))] [(.int (adm (0 : Int32) (0 : Int32)))])) _
        refine XS.iload X686.here hx rfl (hb hby at_167) rfl ?_
        show Steps p.tables e below (T686.setTop (mkF m 169 #[.val (.int x0), .val (.int x1), .val (.int (3 : Int32)), .val (.int (3 : Int32)), .val (.ref b1), .val (.ref b7), .val (.ref b14), .val (.ref b22), .val (.ref b669), .val (.int (0 : Int32))] [(.int (0 : Int32)), (.int (adm (0 : Int32) (0 : Int32)))])) _
        refine XS.icmpNo X686.here hx rfl (hb hby at_169) rfl (teq (by decide)).2 ?_
        show Steps p.tables e below (T686.setTop (mkF m 172 #[.val (.int x0), .val (.int x1), .val (.int (3 : Int32)), .val (.int (3 : Int32)), .val (.ref b1), .val (.ref b7), .val (.ref b14), .val (.ref b22), .val (.ref b669), .val (.int (0 : Int32))] [])) _
        refine XS.iconst X686.here hx rfl (hb hby at_172) ?_
        show Steps p.tables e below (T686.setTop (mkF m 173 #[.val (.int x0), .val (.int x1), .val (.int (3 : Int32)), .val (.int (3 : Int32)), .val (.ref b1), .val (.ref b7), .val (.ref b14), .val (.ref b22), .val (.ref b669), .val (.int (0 : Int32))] [(.int (1 : Int32))])) _
        refine XS.goto X686.here hx rfl (pc0 := 173) (pc' := 177) rfl (hb hby at_173) (by decide) (by decide) ?_
        show Steps p.tables e below (T686.setTop (mkF m 177 #[.val (.int x0), .val (.int x1), .val (.int (3 : Int32)), .val (.int (3 : Int32)), .val (.ref b1), .val (.ref b7), .val (.ref b14), .val (.ref b22), .val (.ref b669), .val (.int (0 : Int32))] [(.int (1 : Int32))])) _
        exact retOut X686 hx Bd.returns rfl (Or.inl ⟨rfl, Or.inr (Or.inl rfl), _, rfl⟩) (hb hby at_177) hretL
      · show Q_rm0 Z x0 x1 de kde el tel kel em mr h0 n0 _ T686.heap _
        rw [eq686]
        exact ⟨rfl, N688⟩
set_option maxRecDepth 65536 in
set_option maxHeartbeats 40000000 in
theorem comes_1 {Post : Tables → Env → Array Value → State → Outcome → State → Prop} (hpost : ∀ tb e args s v u, (limb_1_1.after args s (.returned v) u = true ∧ limb_1_2.after args s (.returned v) u = true ∧ True) → FrameEnd s (.returned v) u (Jvm.fieldLocs frame_1_writes args s ++ Jvm.arrayLocs frame_1_arrays args s ++ Jvm.staticLocs frame_1_statics s) 40 192 → Post tb e args s (.returned v) u) :
    ArmFor flags0 classFile x code maxLocals ret World_1 tables_1 room_1 Calls_1 rest_1 Pre_1 Post := by
  intro l hfl _ _ p e ha hc hk s m args below hf hA hF happ hP
  obtain ⟨hcalls, hrest, hpre⟩ := hP
  obtain ⟨-, -, -, hnamed, -, -, -, hat⟩ := (Spec.applies_iff hf).mp happ
  obtain ⟨hg, hn⟩ := and_e (Cond.before_iff.mp (show (Jvm.Cond.and given_1 narrow_1).before args s = true from hpre))
  obtain ⟨u1, v1⟩ := and_e hg
  obtain ⟨u2, v2⟩ := and_e v1
  obtain ⟨w0, w1, rfl⟩ : ∃ w0 w1 : Value, args = #[w0, w1] := by
    have hs : args.size = 2 := by simpa [Cond.value, given_1] using u1
    obtain ⟨L⟩ := args
    match L, hs with
    | [w0, w1], _ => exact ⟨w0, w1, rfl⟩
  have hw := fun d (hd : d ∈ tables_1) => atoms_spec (ws := Jvm.Cond.code x code maxLocals ret :: tables_1) hat d (List.mem_cons_of_mem _ hd)
  have hfit : Fit s := fun {y c} hc i hi => by
    obtain ⟨ha, rfl⟩ := Array.getElem?_eq_some_iff.mp hc
    have q := List.all_eq_true.mp ((Array.all_eq_true_iff_forall_mem.mp hF) _ (Array.getElem_mem ha)) i (List.mem_range.mpr hi)
    simpa [Array.getElem?_eq_getElem hi] using q
  obtain ⟨i0, ei0⟩ := is_v u2
  obtain rfl : w0 = (.int i0) := Option.some.inj ei0
  obtain ⟨i1, ei1⟩ := is_v v2
  obtain rfl : w1 = (.int i1) := Option.some.inj ei1
  obtain ⟨hsets, hown0⟩ := atoms_of _ (rest_1_c_eq ▸ (show rest_1_c.before _ s = true from hrest))
  obtain ⟨cM, kM, mr, mm1, mm2, mm3, -⟩ := (hcalls.1 : Jvm.D.MirrorMade s "[Ljava/lang/Object;")
  have hM : MM s "[Ljava/lang/Object;" mr := ⟨cM, kM, mm1, mm2, mm3⟩
  obtain ⟨de, evd⟩ := exa_v (Cond.before_iff.mp (hsets _ (List.mem_of_getElem? (i := 7) rfl)))
  have Sde := Sta.start evd (Or.inr ⟨(ow35 hw), (hsets _ (List.mem_of_getElem? (i := 2) rfl))⟩)
  obtain ⟨kde, Ade⟩ := own_arv0 (dv := .null) hfit evd (Cond.before_iff.mp (hsets _ (List.mem_of_getElem? (i := 6) rfl))) (Cond.before_iff.mp (hsets _ (List.mem_of_getElem? (i := 8) rfl)))
  obtain ⟨el, evl⟩ := exa_v (Cond.before_iff.mp (hsets _ (List.mem_of_getElem? (i := 11) rfl)))
  have Sel := Sta.start evl (Or.inl (hsets _ (List.mem_of_getElem? (i := 10) rfl)))
  have Eel := Exa.start evl (Cond.before_iff.mp (hsets _ (List.mem_of_getElem? (i := 11) rfl)))
  obtain ⟨tel, Fel, -, evt⟩ := own_fexa evl (Cond.before_iff.mp (hsets _ (List.mem_of_getElem? (i := 13) rfl)))
  obtain ⟨kel, Ael⟩ := own_arv0 (dv := .null) hfit evt (Cond.before_iff.mp (hsets _ (List.mem_of_getElem? (i := 12) rfl))) (Cond.before_iff.mp (hsets _ (List.mem_of_getElem? (i := 14) rfl)))
  obtain ⟨em, evm⟩ := exa_v (Cond.before_iff.mp (hsets _ (List.mem_of_getElem? (i := 18) rfl)))
  have Sem := Sta.start evm (Or.inl (hsets _ (List.mem_of_getElem? (i := 17) rfl)))
  obtain ⟨n, o, h1, h2, h3, _, L, rfl, ⟨rfl, N⟩, hq⟩ := rm0 l s _ hw tables_1 i0 i1 de kde el tel kel em mr s.heap s.heap.size (Old.start s) Sde Ade Sel Sem hM Eel Fel Ael p e ha hc hk s m _ below hf ((Spec.applies_iff_loose hf).mp happ).1 ⟨rfl, State.Warmed39.refl s, rfl⟩ trivial
  refine ⟨n, _, h1, h2, h3, hpost _ _ _ _ _ _ ⟨Cond.after_iff.mpr rfl, Cond.after_iff.mpr (eq_i res_at (Term.int_eval (1)) rfl), trivial⟩ ⟨hq.1, hq.2.1, (hq.2.2.sift fun y hy => Or.inr (N y hy)).mono (by decide) (by decide)⟩⟩
theorem main_1_1 : Claimed_1_1 := comes_1 fun _ _ _ _ _ _ h hF => ⟨h.1, hF⟩
theorem main_1_2 : Claimed_1_2 := comes_1 fun _ _ _ _ _ _ h hF => ⟨h.2.1, hF⟩
end Jvm.Pilot.@@N@@
namespace Jvm.Pilot.@@N@@
open Jvm Jvm.ClassFile Sem Op Lib Jvm.Free Jvm.Stand Jvm.Pilot.@@N@@.Jvm.D
/-! MADE BY PROGRAM (witnessworld.py) out of the Statement's table words and the real class files: 31 classes; the members and pool entries that the words name. The judged class is class 1, her method 1. -/
namespace start1
open Jvm.ClassFile
def u (s : String) : CpInfo := .utf8 (stringToUtf16 s)
/-- a pool by its gaps: so many unusable entries, then the entry; so many at the end -/
def gap : Nat → List CpInfo → List CpInfo
  | 0, r => r
  | n + 1, r => .unusable :: gap n r
def poolList (es : List (Nat × CpInfo)) (last : Nat) : List CpInfo := es.foldr (fun e r => gap e.1 (e.2 :: r)) (gap last [])
def pool (es : List (Nat × CpInfo)) (last : Nat) : Array CpInfo := ⟨poolList es last⟩
def fileOf (pool : Array CpInfo) (this : Nat) (attrs : Array Attribute := #[]) (ms : Array MethodInfo := #[]) (fl : Nat := 33) (sup : Nat := 0) (ifs : Array Nat := #[]) (fds : Array FieldInfo := #[]) : ClassFile where
  minorVersion := 0
  majorVersion := 65
  constantPool := pool
  accessFlags := fl
  thisClass := this
  superClass := sup
  interfaces := ifs
  fields := fds
  methods := ms
  attributes := attrs
def plain (name : String) (sup : Option ClassId) : Class where
  name := name
  kind := .ordinary
  loader := none
  accessFlags := 33
  super := sup
  interfaces := #[]
  cf := none
  fields := #[]
  methods := #[]
  instanceTypes := #[]
  staticTypes := #[]
  resolved := #[]
  callSites := []
  init := .initialized
  statics := none
  mirror := none

def pool0 : Array CpInfo := pool [(5, u "<init>"), (0, u "()V"), (1, .class_ 10), (1, u "java/lang/Object"), (0, u "getClass"), (0, u "()Ljava/lang/Class;")] 111

def k0c0 : Code := { maxStack := 0, maxLocals := 1, code := object_method_1_code, exceptionTable := #[], attributes := #[] }
def k0m0 : Method := { name := "<init>", desc := "()V", sig := { parameters := [], returnType := none }, accessFlags := 1, code := some k0c0 }
def k0m1 : Method := { name := "getClass", desc := "()Ljava/lang/Class;", sig := { parameters := [], returnType := some (.object "java/lang/Class") }, accessFlags := 273, code := none }
/-- java/lang/Object -/
def k0 : Class := { plain "java/lang/Object" none with
  accessFlags := 33
  interfaces := #[]
  cf := some (fileOf pool0 8 #[] #[{ accessFlags := 1, nameIndex := 5, descriptorIndex := 6, attributes := #[] }, { accessFlags := 273, nameIndex := 11, descriptorIndex := 12, attributes := #[] }] 33 0 #[] #[])
  fields := #[]
  methods := #[k0m0, k0m1]
  instanceTypes := #[]
  staticTypes := #[]
  resolved := Array.replicate 124 none
  statics := none }

def pool1 : Array CpInfo := pool [(2, .class_ 4), (0, .nameAndType 5 6), (0, u "java/lang/Object"), (0, u "<init>"), (0, u "()V"), (0, .class_ 8), (0, u "com/example/atropos/atropos/ops/Excess$Span"), (0, .methodref 7 10), (0, .nameAndType 5 11), (0, u "(Lcom/example/atropos/atropos/model/Rational;Lcom/example/atropos/atropos/model/Rational;)V"), (0, .class_ 13), (0, u "com/example/atropos/atropos/ops/Excess$Rate"), (0, .methodref 12 15), (0, .nameAndType 5 16), (0, u "(Lcom/example/atropos/atropos/model/Rational;Lcom/example/atropos/atropos/model/Rational;Lcom/example/atropos/atropos/model/Rational;Lcom/example/atropos/atropos/model/Rational;)V"), (0, .class_ 18), (0, u "java/util/ArrayList"), (0, .methodref 17 3), (0, .methodref 17 21), (0, .nameAndType 22 23), (0, u "add"), (0, u "(Ljava/lang/Object;)Z"), (0, .class_ 25), (0, u "com/example/atropos/atropos/analysis/Admission"), (0, .methodref 24 27), (0, .nameAndType 5 28), (0, u "(Ljava/util/List;Ljava/util/List;)V"), (0, .methodref 24 30), (0, .nameAndType 31 32), (0, u "admits"), (0, u "()Z"), (0, .class_ 34), (0, u "com/example/atropos/atropos/analysis/AdmissionAdmitsPinLaw"), (2, u "law"), (0, u "(II)Z")] 8

def k1m0 : Method := { name := "<init>", desc := "()V", sig := { parameters := [], returnType := none }, accessFlags := 2, code := none }
def k1c1 : Code := { maxStack := 6, maxLocals := 10, code := code, exceptionTable := #[], attributes := #[] }
def k1m1 : Method := { name := "law", desc := "(II)Z", sig := { parameters := [.int, .int], returnType := some .boolean }, accessFlags := 9, code := some k1c1 }
/-- com/example/atropos/atropos/analysis/AdmissionAdmitsPinLaw -/
def k1 : Class := { plain "com/example/atropos/atropos/analysis/AdmissionAdmitsPinLaw" (some 0) with
  accessFlags := 49
  interfaces := #[]
  cf := some (fileOf pool1 33 #[] #[{ accessFlags := 2, nameIndex := 5, descriptorIndex := 6, attributes := #[] }, { accessFlags := 9, nameIndex := 37, descriptorIndex := 38, attributes := #[] }] 49 2 #[] #[])
  fields := #[]
  methods := #[k1m0, k1m1]
  instanceTypes := #[]
  staticTypes := #[]
  resolved := Array.replicate 47 none
  statics := none }

def pool2 : Array CpInfo := pool [(1, .methodref 2 3), (0, .class_ 4), (0, .nameAndType 5 6), (0, u "java/lang/Object"), (0, u "<init>"), (0, u "()V"), (0, .class_ 8), (0, u "java/lang/Record")] 13

def k2c0 : Code := { maxStack := 1, maxLocals := 1, code := jdk_30_method_1_code, exceptionTable := #[], attributes := #[] }
def k2m0 : Method := { name := "<init>", desc := "()V", sig := { parameters := [], returnType := none }, accessFlags := 4, code := some k2c0 }
/-- java/lang/Record -/
def k2 : Class := { plain "java/lang/Record" (some 0) with
  accessFlags := 1057
  interfaces := #[]
  cf := some (fileOf pool2 7 #[] #[{ accessFlags := 4, nameIndex := 5, descriptorIndex := 6, attributes := #[] }] 1057 2 #[] #[])
  fields := #[]
  methods := #[k2m0]
  instanceTypes := #[]
  staticTypes := #[]
  resolved := Array.replicate 22 none
  statics := none }

def pool3 : Array CpInfo := pool [(1, .methodref 2 3), (0, .class_ 4), (0, .nameAndType 5 6), (0, u "java/lang/Record"), (0, u "<init>"), (0, u "()V"), (0, .fieldref 8 9), (0, .class_ 10), (0, .nameAndType 11 12), (0, u "com/example/atropos/atropos/ops/Excess$Span"), (0, u "start"), (0, u "Lcom/example/atropos/atropos/model/Rational;"), (0, .fieldref 8 14), (0, .nameAndType 15 12), (0, u "end"), (12, u "(Lcom/example/atropos/atropos/model/Rational;Lcom/example/atropos/atropos/model/Rational;)V"), (10, .class_ 40), (0, u "com/example/atropos/atropos/ops/Excess")] 20

def k3c0 : Code := { maxStack := 2, maxLocals := 3, code := prog_45_method_1_code, exceptionTable := #[], attributes := #[] }
def k3m0 : Method := { name := "<init>", desc := "(Lcom/example/atropos/atropos/model/Rational;Lcom/example/atropos/atropos/model/Rational;)V", sig := { parameters := [(.object "com/example/atropos/atropos/model/Rational"), (.object "com/example/atropos/atropos/model/Rational")], returnType := none }, accessFlags := 1, code := some k3c0 }
/-- com/example/atropos/atropos/ops/Excess$Span -/
def k3 : Class := { plain "com/example/atropos/atropos/ops/Excess$Span" (some 2) with
  accessFlags := 49
  interfaces := #[]
  cf := some (fileOf pool3 8 #[.nestHost 39] #[{ accessFlags := 1, nameIndex := 5, descriptorIndex := 28, attributes := #[] }] 49 2 #[] #[{ accessFlags := 18, nameIndex := 11, descriptorIndex := 12, attributes := #[] }, { accessFlags := 18, nameIndex := 15, descriptorIndex := 12, attributes := #[] }])
  fields := #[{ name := "start", type := (.object "com/example/atropos/atropos/model/Rational"), accessFlags := 18, slot := 0, constantValue := 0 }, { name := "end", type := (.object "com/example/atropos/atropos/model/Rational"), accessFlags := 18, slot := 1, constantValue := 0 }]
  methods := #[k3m0]
  instanceTypes := #[(.object "com/example/atropos/atropos/model/Rational"), (.object "com/example/atropos/atropos/model/Rational")]
  staticTypes := #[]
  resolved := Array.replicate 61 none
  statics := none }

def pool4 : Array CpInfo := pool [(1, .methodref 2 3), (0, .class_ 4), (0, .nameAndType 5 6), (0, u "java/lang/Record"), (0, u "<init>"), (0, u "()V"), (0, .fieldref 8 9), (0, .class_ 10), (0, .nameAndType 11 12), (0, u "com/example/atropos/atropos/ops/Excess$Rate"), (0, u "start"), (0, u "Lcom/example/atropos/atropos/model/Rational;"), (0, .fieldref 8 14), (0, .nameAndType 15 12), (0, u "end"), (0, .fieldref 8 17), (0, .nameAndType 18 12), (0, u "slope"), (0, .fieldref 8 20), (0, .nameAndType 21 12), (0, u "bound"), (12, u "(Lcom/example/atropos/atropos/model/Rational;Lcom/example/atropos/atropos/model/Rational;Lcom/example/atropos/atropos/model/Rational;Lcom/example/atropos/atropos/model/Rational;)V"), (10, .class_ 46), (0, u "com/example/atropos/atropos/ops/Excess")] 22

def k4c0 : Code := { maxStack := 2, maxLocals := 5, code := prog_44_method_1_code, exceptionTable := #[], attributes := #[] }
def k4m0 : Method := { name := "<init>", desc := "(Lcom/example/atropos/atropos/model/Rational;Lcom/example/atropos/atropos/model/Rational;Lcom/example/atropos/atropos/model/Rational;Lcom/example/atropos/atropos/model/Rational;)V", sig := { parameters := [(.object "com/example/atropos/atropos/model/Rational"), (.object "com/example/atropos/atropos/model/Rational"), (.object "com/example/atropos/atropos/model/Rational"), (.object "com/example/atropos/atropos/model/Rational")], returnType := none }, accessFlags := 1, code := some k4c0 }
/-- com/example/atropos/atropos/ops/Excess$Rate -/
def k4 : Class := { plain "com/example/atropos/atropos/ops/Excess$Rate" (some 2) with
  accessFlags := 49
  interfaces := #[]
  cf := some (fileOf pool4 8 #[.nestHost 45] #[{ accessFlags := 1, nameIndex := 5, descriptorIndex := 34, attributes := #[] }] 49 2 #[] #[{ accessFlags := 18, nameIndex := 11, descriptorIndex := 12, attributes := #[] }, { accessFlags := 18, nameIndex := 15, descriptorIndex := 12, attributes := #[] }, { accessFlags := 18, nameIndex := 18, descriptorIndex := 12, attributes := #[] }, { accessFlags := 18, nameIndex := 21, descriptorIndex := 12, attributes := #[] }])
  fields := #[{ name := "start", type := (.object "com/example/atropos/atropos/model/Rational"), accessFlags := 18, slot := 0, constantValue := 0 }, { name := "end", type := (.object "com/example/atropos/atropos/model/Rational"), accessFlags := 18, slot := 1, constantValue := 0 }, { name := "slope", type := (.object "com/example/atropos/atropos/model/Rational"), accessFlags := 18, slot := 2, constantValue := 0 }, { name := "bound", type := (.object "com/example/atropos/atropos/model/Rational"), accessFlags := 18, slot := 3, constantValue := 0 }]
  methods := #[k4m0]
  instanceTypes := #[(.object "com/example/atropos/atropos/model/Rational"), (.object "com/example/atropos/atropos/model/Rational"), (.object "com/example/atropos/atropos/model/Rational"), (.object "com/example/atropos/atropos/model/Rational")]
  staticTypes := #[]
  resolved := Array.replicate 69 none
  statics := none }

def pool5 : Array CpInfo := pool [(8, .class_ 10), (1, u "java/lang/Iterable"), (24, .class_ 36), (0, u "java/lang/Object")] 25

/-- java/lang/Iterable -/
def k5 : Class := { plain "java/lang/Iterable" (some 0) with
  accessFlags := 1537
  interfaces := #[]
  cf := some (fileOf pool5 8 #[] #[] 1537 35 #[] #[])
  fields := #[]
  methods := #[]
  instanceTypes := #[]
  staticTypes := #[]
  resolved := Array.replicate 62 none
  statics := none }

def pool6 : Array CpInfo := pool [(10, .class_ 12), (1, u "java/util/Collection"), (0, u "toArray"), (16, u "()Z"), (29, .class_ 61), (0, u "java/lang/Object"), (0, .class_ 63), (0, u "java/lang/Iterable"), (2, u "isEmpty"), (3, u "()[Ljava/lang/Object;")] 44

def k6m0 : Method := { name := "isEmpty", desc := "()Z", sig := { parameters := [], returnType := some .boolean }, accessFlags := 1025, code := none }
def k6m1 : Method := { name := "toArray", desc := "()[Ljava/lang/Object;", sig := { parameters := [], returnType := some (.array (.object "java/lang/Object")) }, accessFlags := 1025, code := none }
/-- java/util/Collection -/
def k6 : Class := { plain "java/util/Collection" (some 0) with
  accessFlags := 1537
  interfaces := #[5]
  cf := some (fileOf pool6 10 #[] #[{ accessFlags := 1025, nameIndex := 66, descriptorIndex := 30, attributes := #[] }, { accessFlags := 1025, nameIndex := 13, descriptorIndex := 70, attributes := #[] }] 1537 60 #[62] #[])
  fields := #[]
  methods := #[k6m0, k6m1]
  instanceTypes := #[]
  staticTypes := #[]
  resolved := Array.replicate 115 none
  statics := none }

def pool7 : Array CpInfo := pool [(1, .methodref 2 3), (0, .class_ 4), (0, .nameAndType 5 6), (0, u "java/lang/Object"), (0, u "<init>"), (0, u "()V"), (1, .class_ 10), (1, u "java/util/AbstractCollection"), (66, .class_ 78), (0, u "java/util/Collection")] 81

def k7c0 : Code := { maxStack := 1, maxLocals := 1, code := jdk_22_method_1_code, exceptionTable := #[], attributes := #[] }
def k7m0 : Method := { name := "<init>", desc := "()V", sig := { parameters := [], returnType := none }, accessFlags := 4, code := some k7c0 }
/-- java/util/AbstractCollection -/
def k7 : Class := { plain "java/util/AbstractCollection" (some 0) with
  accessFlags := 1057
  interfaces := #[6]
  cf := some (fileOf pool7 8 #[] #[{ accessFlags := 4, nameIndex := 5, descriptorIndex := 6, attributes := #[] }] 1057 2 #[77] #[])
  fields := #[]
  methods := #[k7m0]
  instanceTypes := #[]
  staticTypes := #[]
  resolved := Array.replicate 160 none
  statics := none }

def pool8 : Array CpInfo := pool [(8, .class_ 10), (1, u "java/util/SequencedCollection"), (15, .class_ 27), (0, u "java/lang/Object"), (0, .class_ 29), (0, u "java/util/Collection")] 27

/-- java/util/SequencedCollection -/
def k8 : Class := { plain "java/util/SequencedCollection" (some 0) with
  accessFlags := 1537
  interfaces := #[6]
  cf := some (fileOf pool8 8 #[] #[] 1537 26 #[28] #[])
  fields := #[]
  methods := #[]
  instanceTypes := #[]
  staticTypes := #[]
  resolved := Array.replicate 57 none
  statics := none }

def pool9 : Array CpInfo := pool [(8, .class_ 10), (1, u "java/util/List"), (7, u "()Z"), (12, u "(Ljava/lang/Object;)V"), (16, u "<init>"), (18, u "isEmpty"), (20, u "of"), (1, .fieldref 91 92), (0, .class_ 93), (0, .nameAndType 94 95), (0, u "java/util/ImmutableCollections"), (0, u "EMPTY_LIST"), (0, u "Ljava/util/ImmutableCollections$ListN;"), (0, .class_ 97), (0, u "java/util/ImmutableCollections$List12"), (0, .methodref 96 99), (0, .nameAndType 48 31), (0, .methodref 96 101), (0, .nameAndType 48 102), (0, u "(Ljava/lang/Object;Ljava/lang/Object;)V"), (0, .class_ 104), (0, u "java/lang/Object"), (3, u "([Ljava/lang/Object;)Ljava/util/List;"), (0, .methodref 91 110), (0, .nameAndType 111 108), (0, u "listFromArray"), (0, .methodref 91 113), (0, .nameAndType 114 115), (0, u "listCopy"), (0, u "(Ljava/util/Collection;)Ljava/util/List;"), (3, u "()Ljava/util/List;"), (0, .class_ 121), (0, u "java/util/SequencedCollection"), (112, u "copyOf")] 16

def k9m0 : Method := { name := "isEmpty", desc := "()Z", sig := { parameters := [], returnType := some .boolean }, accessFlags := 1025, code := none }
def k9c1 : Code := { maxStack := 1, maxLocals := 0, code := jdk_40_method_36_code, exceptionTable := #[], attributes := #[] }
def k9m1 : Method := { name := "of", desc := "()Ljava/util/List;", sig := { parameters := [], returnType := some (.object "java/util/List") }, accessFlags := 9, code := some k9c1 }
def k9c2 : Code := { maxStack := 5, maxLocals := 2, code := jdk_40_method_47_code, exceptionTable := #[], attributes := #[] }
def k9m2 : Method := { name := "of", desc := "([Ljava/lang/Object;)Ljava/util/List;", sig := { parameters := [(.array (.object "java/lang/Object"))], returnType := some (.object "java/util/List") }, accessFlags := 137, code := some k9c2 }
def k9c3 : Code := { maxStack := 1, maxLocals := 1, code := jdk_40_method_48_code, exceptionTable := #[], attributes := #[] }
def k9m3 : Method := { name := "copyOf", desc := "(Ljava/util/Collection;)Ljava/util/List;", sig := { parameters := [(.object "java/util/Collection")], returnType := some (.object "java/util/List") }, accessFlags := 9, code := some k9c3 }
/-- java/util/List -/
def k9 : Class := { plain "java/util/List" (some 0) with
  accessFlags := 1537
  interfaces := #[8]
  cf := some (fileOf pool9 8 #[] #[{ accessFlags := 1025, nameIndex := 67, descriptorIndex := 18, attributes := #[] }, { accessFlags := 9, nameIndex := 88, descriptorIndex := 119, attributes := #[] }, { accessFlags := 137, nameIndex := 88, descriptorIndex := 108, attributes := #[] }, { accessFlags := 9, nameIndex := 234, descriptorIndex := 115, attributes := #[] }] 1537 103 #[120] #[])
  fields := #[]
  methods := #[k9m0, k9m1, k9m2, k9m3]
  instanceTypes := #[]
  staticTypes := #[]
  resolved := Array.replicate 251 none
  statics := none }

def pool10 : Array CpInfo := pool [(1, .methodref 2 3), (0, .class_ 4), (0, .nameAndType 5 6), (0, u "java/util/AbstractCollection"), (0, u "<init>"), (0, u "()V"), (0, .fieldref 8 9), (0, .class_ 10), (0, .nameAndType 11 12), (0, u "java/util/AbstractList"), (0, u "modCount"), (0, u "I"), (64, .class_ 78), (0, u "java/util/AbstractList$Itr"), (3, .class_ 83), (0, u "java/util/AbstractList$ListItr"), (9, .class_ 94), (0, u "java/util/AbstractList$RandomAccessSubList"), (3, .class_ 99), (0, u "java/util/AbstractList$SubList"), (33, .class_ 134), (0, u "java/util/List"), (73, .class_ 209), (0, u "java/util/AbstractList$SubList$1"), (0, .class_ 211), (0, u "java/util/AbstractList$RandomAccessSpliterator")] 6

def k10c0 : Code := { maxStack := 2, maxLocals := 1, code := jdk_39_method_1_code, exceptionTable := #[], attributes := #[] }
def k10m0 : Method := { name := "<init>", desc := "()V", sig := { parameters := [], returnType := none }, accessFlags := 4, code := some k10c0 }
/-- java/util/AbstractList -/
def k10 : Class := { plain "java/util/AbstractList" (some 7) with
  accessFlags := 1057
  interfaces := #[9]
  cf := some (fileOf pool10 8 #[.nestMembers #[93, 98, 208, 210, 82, 77]] #[{ accessFlags := 4, nameIndex := 5, descriptorIndex := 6, attributes := #[] }] 1057 2 #[133] #[{ accessFlags := 132, nameIndex := 11, descriptorIndex := 12, attributes := #[] }])
  fields := #[{ name := "modCount", type := .int, accessFlags := 132, slot := 0, constantValue := 0 }]
  methods := #[k10m0]
  instanceTypes := #[.int]
  staticTypes := #[]
  resolved := Array.replicate 218 none
  statics := none }

def pool11 : Array CpInfo := pool [(1, .class_ 2), (0, u "java/util/RandomAccess"), (0, .class_ 4), (0, u "java/lang/Object")] 2

/-- java/util/RandomAccess -/
def k11 : Class := { plain "java/util/RandomAccess" (some 0) with
  accessFlags := 1537
  interfaces := #[]
  cf := some (fileOf pool11 1 #[] #[] 1537 3 #[] #[])
  fields := #[]
  methods := #[]
  instanceTypes := #[]
  staticTypes := #[]
  resolved := Array.replicate 7 none
  statics := none }

def pool12 : Array CpInfo := pool [(1, .class_ 2), (0, u "java/lang/Cloneable"), (0, .class_ 4), (0, u "java/lang/Object")] 2

/-- java/lang/Cloneable -/
def k12 : Class := { plain "java/lang/Cloneable" (some 0) with
  accessFlags := 1537
  interfaces := #[]
  cf := some (fileOf pool12 1 #[] #[] 1537 3 #[] #[])
  fields := #[]
  methods := #[]
  instanceTypes := #[]
  staticTypes := #[]
  resolved := Array.replicate 7 none
  statics := none }

def pool13 : Array CpInfo := pool [(1, .class_ 2), (0, u "java/io/Serializable"), (0, .class_ 4), (0, u "java/lang/Object")] 2

/-- java/io/Serializable -/
def k13 : Class := { plain "java/io/Serializable" (some 0) with
  accessFlags := 1537
  interfaces := #[]
  cf := some (fileOf pool13 1 #[] #[] 1537 3 #[] #[])
  fields := #[]
  methods := #[]
  instanceTypes := #[]
  staticTypes := #[]
  resolved := Array.replicate 7 none
  statics := none }

def pool14 : Array CpInfo := pool [(1, .methodref 2 3), (0, .class_ 4), (0, .nameAndType 5 6), (0, u "java/util/AbstractList"), (0, u "<init>"), (0, u "()V"), (0, .class_ 8), (0, u "java/lang/Object"), (0, .fieldref 10 11), (0, .class_ 12), (0, .nameAndType 13 14), (0, u "java/util/ArrayList"), (0, u "elementData"), (0, u "[Ljava/lang/Object;"), (2, u "EMPTY_ELEMENTDATA"), (21, .fieldref 10 40), (0, .nameAndType 41 14), (0, u "DEFAULTCAPACITY_EMPTY_ELEMENTDATA"), (4, u "toArray"), (0, u "()[Ljava/lang/Object;"), (0, .fieldref 10 49), (0, .nameAndType 50 51), (0, u "size"), (0, u "I"), (6, .class_ 60), (1, u "java/util/Arrays"), (0, u "copyOf"), (1, .fieldref 10 64), (0, .nameAndType 65 51), (0, u "modCount"), (0, .methodref 58 67), (0, .nameAndType 61 68), (0, u "([Ljava/lang/Object;I)[Ljava/lang/Object;"), (0, .methodref 10 70), (0, .nameAndType 71 72), (0, u "grow"), (0, u "(I)[Ljava/lang/Object;"), (6, .methodref 80 81), (0, .class_ 82), (0, .nameAndType 83 84), (0, u "java/lang/Math"), (0, u "max"), (0, u "(II)I"), (11, u "(Ljava/lang/Object;)Z"), (32, .methodref 10 130), (0, .nameAndType 71 47), (0, .methodref 10 132), (0, .nameAndType 133 134), (0, u "add"), (0, u "(Ljava/lang/Object;[Ljava/lang/Object;I)V"), (13, .class_ 149), (0, u "java/util/List"), (23, u "()Z"), (88, .class_ 263), (0, u "java/util/ArrayList$ListItr"), (3, .class_ 268), (0, u "java/util/ArrayList$Itr"), (7, .class_ 277), (0, u "java/util/ArrayList$SubList"), (12, .class_ 291), (0, u "java/util/ArrayList$ArrayListSpliterator"), (37, .class_ 330), (0, u "java/util/RandomAccess"), (0, .class_ 332), (0, u "java/lang/Cloneable"), (0, .class_ 334), (0, u "java/io/Serializable"), (0, u "serialVersionUID"), (0, u "J"), (3, u "DEFAULT_CAPACITY"), (22, u "isEmpty"), (136, .class_ 501), (0, u "java/util/ArrayList$SubList$2"), (0, .class_ 503), (0, u "java/util/ArrayList$SubList$1")] 5

def k14c0 : Code := { maxStack := 2, maxLocals := 1, code := jdk_38_method_2_code, exceptionTable := #[], attributes := #[] }
def k14m0 : Method := { name := "<init>", desc := "()V", sig := { parameters := [], returnType := none }, accessFlags := 1, code := some k14c0 }
def k14c1 : Code := { maxStack := 4, maxLocals := 4, code := jdk_38_method_6_code, exceptionTable := #[], attributes := #[] }
def k14m1 : Method := { name := "grow", desc := "(I)[Ljava/lang/Object;", sig := { parameters := [.int], returnType := some (.array (.object "java/lang/Object")) }, accessFlags := 2, code := some k14c1 }
def k14c2 : Code := { maxStack := 3, maxLocals := 1, code := jdk_38_method_7_code, exceptionTable := #[], attributes := #[] }
def k14m2 : Method := { name := "grow", desc := "()[Ljava/lang/Object;", sig := { parameters := [], returnType := some (.array (.object "java/lang/Object")) }, accessFlags := 2, code := some k14c2 }
def k14c3 : Code := { maxStack := 1, maxLocals := 1, code := jdk_38_method_9_code, exceptionTable := #[], attributes := #[] }
def k14m3 : Method := { name := "isEmpty", desc := "()Z", sig := { parameters := [], returnType := some .boolean }, accessFlags := 1, code := some k14c3 }
def k14c4 : Code := { maxStack := 2, maxLocals := 1, code := jdk_38_method_16_code, exceptionTable := #[], attributes := #[] }
def k14m4 : Method := { name := "toArray", desc := "()[Ljava/lang/Object;", sig := { parameters := [], returnType := some (.array (.object "java/lang/Object")) }, accessFlags := 1, code := some k14c4 }
def k14c5 : Code := { maxStack := 3, maxLocals := 4, code := jdk_38_method_24_code, exceptionTable := #[], attributes := #[] }
def k14m5 : Method := { name := "add", desc := "(Ljava/lang/Object;[Ljava/lang/Object;I)V", sig := { parameters := [(.object "java/lang/Object"), (.array (.object "java/lang/Object")), .int], returnType := none }, accessFlags := 2, code := some k14c5 }
def k14c6 : Code := { maxStack := 4, maxLocals := 2, code := jdk_38_method_25_code, exceptionTable := #[], attributes := #[] }
def k14m6 : Method := { name := "add", desc := "(Ljava/lang/Object;)Z", sig := { parameters := [(.object "java/lang/Object")], returnType := some .boolean }, accessFlags := 1, code := some k14c6 }
/-- java/util/ArrayList -/
def k14 : Class := { plain "java/util/ArrayList" (some 10) with
  accessFlags := 33
  interfaces := #[9, 11, 12, 13]
  cf := some (fileOf pool14 10 #[.nestMembers #[290, 276, 500, 502, 262, 267]] #[{ accessFlags := 1, nameIndex := 5, descriptorIndex := 6, attributes := #[] }, { accessFlags := 2, nameIndex := 71, descriptorIndex := 72, attributes := #[] }, { accessFlags := 2, nameIndex := 71, descriptorIndex := 47, attributes := #[] }, { accessFlags := 1, nameIndex := 363, descriptorIndex := 173, attributes := #[] }, { accessFlags := 1, nameIndex := 46, descriptorIndex := 47, attributes := #[] }, { accessFlags := 2, nameIndex := 133, descriptorIndex := 134, attributes := #[] }, { accessFlags := 1, nameIndex := 133, descriptorIndex := 96, attributes := #[] }] 33 2 #[148, 329, 331, 333] #[{ accessFlags := 26, nameIndex := 335, descriptorIndex := 336, attributes := #[] }, { accessFlags := 26, nameIndex := 340, descriptorIndex := 51, attributes := #[] }, { accessFlags := 26, nameIndex := 17, descriptorIndex := 14, attributes := #[] }, { accessFlags := 26, nameIndex := 41, descriptorIndex := 14, attributes := #[] }, { accessFlags := 128, nameIndex := 13, descriptorIndex := 14, attributes := #[] }, { accessFlags := 2, nameIndex := 50, descriptorIndex := 51, attributes := #[] }])
  fields := #[{ name := "serialVersionUID", type := .long, accessFlags := 26, slot := 0, constantValue := 0 }, { name := "DEFAULT_CAPACITY", type := .int, accessFlags := 26, slot := 1, constantValue := 0 }, { name := "EMPTY_ELEMENTDATA", type := (.array (.object "java/lang/Object")), accessFlags := 26, slot := 2, constantValue := 0 }, { name := "DEFAULTCAPACITY_EMPTY_ELEMENTDATA", type := (.array (.object "java/lang/Object")), accessFlags := 26, slot := 3, constantValue := 0 }, { name := "elementData", type := (.array (.object "java/lang/Object")), accessFlags := 128, slot := 1, constantValue := 0 }, { name := "size", type := .int, accessFlags := 2, slot := 2, constantValue := 0 }]
  methods := #[k14m0, k14m1, k14m2, k14m3, k14m4, k14m5, k14m6]
  instanceTypes := #[.int, (.array (.object "java/lang/Object")), .int]
  staticTypes := #[.long, .int, (.array (.object "java/lang/Object")), (.array (.object "java/lang/Object"))]
  resolved := Array.replicate 509 none
  statics := some 0 }

def pool15 : Array CpInfo := pool [(1, .class_ 2), (0, u "java/lang/Math"), (1, .class_ 6), (1, u "java/lang/Object"), (0, u "<init>"), (0, u "()V"), (89, .class_ 100), (1, u "java/lang/Math$RandomNumberGeneratorHolder"), (71, u "negativeZeroFloatBits"), (0, u "J"), (2, u "negativeZeroDoubleBits"), (21, u "max"), (2, u "min"), (43, u "$assertionsDisabled"), (0, u "Z"), (88, u "(II)I"), (2, u "twoToTheDoubleScaleDown"), (0, u "D"), (4, u "twoToTheDoubleScaleUp"), (9, u "E"), (3, u "PI"), (2, u "TAU"), (2, u "DEGREES_TO_RADIANS"), (0, u "RADIANS_TO_DEGREES")] 94

def k15m0 : Method := { name := "<init>", desc := "()V", sig := { parameters := [], returnType := none }, accessFlags := 2, code := none }
def k15c1 : Code := { maxStack := 2, maxLocals := 2, code := jdk_29_method_65_code, exceptionTable := #[], attributes := #[] }
def k15m1 : Method := { name := "max", desc := "(II)I", sig := { parameters := [.int, .int], returnType := some .int }, accessFlags := 9, code := some k15c1 }
def k15c2 : Code := { maxStack := 2, maxLocals := 2, code := jdk_29_method_69_code, exceptionTable := #[], attributes := #[] }
def k15m2 : Method := { name := "min", desc := "(II)I", sig := { parameters := [.int, .int], returnType := some .int }, accessFlags := 9, code := some k15c2 }
/-- java/lang/Math -/
def k15 : Class := { plain "java/lang/Math" (some 0) with
  accessFlags := 49
  interfaces := #[]
  cf := some (fileOf pool15 1 #[.nestMembers #[98]] #[{ accessFlags := 2, nameIndex := 7, descriptorIndex := 8, attributes := #[] }, { accessFlags := 9, nameIndex := 198, descriptorIndex := 335, attributes := #[] }, { accessFlags := 9, nameIndex := 201, descriptorIndex := 335, attributes := #[] }] 49 4 #[] #[{ accessFlags := 25, nameIndex := 354, descriptorIndex := 339, attributes := #[] }, { accessFlags := 25, nameIndex := 358, descriptorIndex := 339, attributes := #[] }, { accessFlags := 25, nameIndex := 361, descriptorIndex := 339, attributes := #[] }, { accessFlags := 26, nameIndex := 364, descriptorIndex := 339, attributes := #[] }, { accessFlags := 26, nameIndex := 365, descriptorIndex := 339, attributes := #[] }, { accessFlags := 26, nameIndex := 172, descriptorIndex := 173, attributes := #[] }, { accessFlags := 26, nameIndex := 176, descriptorIndex := 173, attributes := #[] }, { accessFlags := 8, nameIndex := 344, descriptorIndex := 339, attributes := #[] }, { accessFlags := 8, nameIndex := 338, descriptorIndex := 339, attributes := #[] }, { accessFlags := 4120, nameIndex := 245, descriptorIndex := 246, attributes := #[] }])
  fields := #[{ name := "E", type := .double, accessFlags := 25, slot := 0, constantValue := 0 }, { name := "PI", type := .double, accessFlags := 25, slot := 1, constantValue := 0 }, { name := "TAU", type := .double, accessFlags := 25, slot := 2, constantValue := 0 }, { name := "DEGREES_TO_RADIANS", type := .double, accessFlags := 26, slot := 3, constantValue := 0 }, { name := "RADIANS_TO_DEGREES", type := .double, accessFlags := 26, slot := 4, constantValue := 0 }, { name := "negativeZeroFloatBits", type := .long, accessFlags := 26, slot := 5, constantValue := 0 }, { name := "negativeZeroDoubleBits", type := .long, accessFlags := 26, slot := 6, constantValue := 0 }, { name := "twoToTheDoubleScaleUp", type := .double, accessFlags := 8, slot := 7, constantValue := 0 }, { name := "twoToTheDoubleScaleDown", type := .double, accessFlags := 8, slot := 8, constantValue := 0 }, { name := "$assertionsDisabled", type := .boolean, accessFlags := 4120, slot := 9, constantValue := 0 }]
  methods := #[k15m0, k15m1, k15m2]
  instanceTypes := #[]
  staticTypes := #[.double, .double, .double, .double, .double, .long, .long, .double, .double, .boolean]
  resolved := Array.replicate 460 none
  statics := none }

def pool16 : Array CpInfo := pool [(1, .methodref 2 3), (0, .class_ 4), (0, .nameAndType 5 6), (0, u "java/lang/Record"), (0, u "<init>"), (0, u "()V"), (0, .interfaceMethodref 8 9), (0, .class_ 10), (0, .nameAndType 11 12), (0, u "java/util/List"), (0, u "copyOf"), (0, u "(Ljava/util/Collection;)Ljava/util/List;"), (0, .fieldref 14 15), (0, .class_ 16), (0, .nameAndType 17 18), (0, u "com/example/atropos/atropos/analysis/Admission"), (0, u "serviceExceeded"), (0, u "Ljava/util/List;"), (0, .fieldref 14 20), (0, .nameAndType 21 18), (0, u "rateExceeded"), (37, u "(Ljava/util/List;Ljava/util/List;)V"), (0, .interfaceMethodref 8 61), (0, .nameAndType 62 63), (0, u "isEmpty"), (0, u "()Z"), (23, u "admits")] 48

def k16c0 : Code := { maxStack := 2, maxLocals := 3, code := prog_1_method_1_code, exceptionTable := #[], attributes := #[] }
def k16m0 : Method := { name := "<init>", desc := "(Ljava/util/List;Ljava/util/List;)V", sig := { parameters := [(.object "java/util/List"), (.object "java/util/List")], returnType := none }, accessFlags := 1, code := some k16c0 }
def k16c1 : Code := { maxStack := 1, maxLocals := 1, code := prog_1_method_3_code, exceptionTable := #[], attributes := #[] }
def k16m1 : Method := { name := "admits", desc := "()Z", sig := { parameters := [], returnType := some .boolean }, accessFlags := 1, code := some k16c1 }
/-- com/example/atropos/atropos/analysis/Admission -/
def k16 : Class := { plain "com/example/atropos/atropos/analysis/Admission" (some 2) with
  accessFlags := 49
  interfaces := #[]
  cf := some (fileOf pool16 14 #[] #[{ accessFlags := 1, nameIndex := 5, descriptorIndex := 59, attributes := #[] }, { accessFlags := 1, nameIndex := 87, descriptorIndex := 63, attributes := #[] }] 49 2 #[] #[{ accessFlags := 18, nameIndex := 17, descriptorIndex := 18, attributes := #[] }, { accessFlags := 18, nameIndex := 21, descriptorIndex := 18, attributes := #[] }])
  fields := #[{ name := "serviceExceeded", type := (.object "java/util/List"), accessFlags := 18, slot := 0, constantValue := 0 }, { name := "rateExceeded", type := (.object "java/util/List"), accessFlags := 18, slot := 1, constantValue := 0 }]
  methods := #[k16m0, k16m1]
  instanceTypes := #[(.object "java/util/List"), (.object "java/util/List")]
  staticTypes := #[]
  resolved := Array.replicate 136 none
  statics := none }

def pool17 : Array CpInfo := pool [(2, .class_ 4), (1, u "java/lang/Object"), (0, u "<init>"), (0, u "()V"), (3, .class_ 11), (0, u "java/util/ImmutableCollections$List12"), (0, .class_ 13), (0, u "java/util/ImmutableCollections$ListN"), (3, u "Z"), (0, .class_ 19), (0, u "java/util/List"), (0, .interfaceMethodref 21 22), (0, .class_ 23), (0, .nameAndType 24 25), (0, u "java/util/Collection"), (0, u "isEmpty"), (0, u "()Z"), (0, .interfaceMethodref 18 27), (0, .nameAndType 28 29), (0, u "of"), (0, u "()Ljava/util/List;"), (0, .interfaceMethodref 21 31), (0, .nameAndType 32 33), (0, u "toArray"), (0, u "()[Ljava/lang/Object;"), (0, .interfaceMethodref 18 35), (0, .nameAndType 28 36), (0, u "([Ljava/lang/Object;)Ljava/util/List;"), (0, .methodref 38 39), (0, .class_ 40), (0, .nameAndType 41 42), (0, u "java/util/Objects"), (0, u "requireNonNull"), (0, u "(Ljava/lang/Object;)Ljava/lang/Object;"), (0, .methodref 12 44), (0, .nameAndType 5 45), (0, u "([Ljava/lang/Object;Z)V"), (1, .class_ 49), (1, u "java/util/ImmutableCollections"), (0, u "$assertionsDisabled"), (5, u "[Ljava/lang/Object;"), (5, u "EMPTY_LIST"), (0, u "Ljava/util/ImmutableCollections$ListN;"), (8, u "EMPTY_LIST_NULLS"), (22, u "SALT32L"), (0, u "J"), (2, u "REVERSE"), (6, u "archivedObjects"), (2, u "EMPTY"), (0, u "Ljava/lang/Object;"), (0, .class_ 112), (0, u "java/util/ImmutableCollections$SetN"), (5, u "EMPTY_SET"), (0, u "Ljava/util/ImmutableCollections$SetN;"), (0, .class_ 121), (0, u "java/util/ImmutableCollections$MapN"), (3, u "EMPTY_MAP"), (0, u "Ljava/util/ImmutableCollections$MapN;"), (4, u "EXPAND_FACTOR"), (0, u "I"), (9, u "listCopy"), (0, u "(Ljava/util/Collection;)Ljava/util/List;"), (7, u "listFromArray"), (17, .class_ 170), (0, u "java/util/ImmutableCollections$MapN$MapNIterator"), (0, .class_ 172), (0, u "java/util/ImmutableCollections$MapN$1"), (0, .class_ 174), (0, u "java/util/ImmutableCollections$Map1"), (0, .class_ 176), (0, u "java/util/ImmutableCollections$AbstractImmutableMap"), (0, .class_ 178), (0, u "java/util/ImmutableCollections$SetN$SetNIterator"), (0, .class_ 180), (0, u "java/util/ImmutableCollections$Set12"), (0, .class_ 182), (0, u "java/util/ImmutableCollections$Set12$1"), (0, .class_ 184), (0, u "java/util/ImmutableCollections$AbstractImmutableSet"), (0, .class_ 186), (0, u "java/util/ImmutableCollections$SubList"), (0, .class_ 188), (0, u "java/util/ImmutableCollections$ListItr"), (0, .class_ 190), (0, u "java/util/ImmutableCollections$AbstractImmutableList"), (0, .class_ 192), (0, u "java/util/ImmutableCollections$AbstractImmutableCollection"), (0, .class_ 194), (0, u "java/util/ImmutableCollections$Access"), (0, .class_ 196), (0, u "java/util/ImmutableCollections$Access$1")] 16

def k17m0 : Method := { name := "<init>", desc := "()V", sig := { parameters := [], returnType := none }, accessFlags := 2, code := none }
def k17c1 : Code := { maxStack := 1, maxLocals := 2, code := jdk_56_method_3_code, exceptionTable := #[], attributes := #[] }
def k17m1 : Method := { name := "listCopy", desc := "(Ljava/util/Collection;)Ljava/util/List;", sig := { parameters := [(.object "java/util/Collection")], returnType := some (.object "java/util/List") }, accessFlags := 8, code := some k17c1 }
def k17c2 : Code := { maxStack := 4, maxLocals := 3, code := jdk_56_method_4_code, exceptionTable := #[], attributes := #[] }
def k17m2 : Method := { name := "listFromArray", desc := "([Ljava/lang/Object;)Ljava/util/List;", sig := { parameters := [(.array (.object "java/lang/Object"))], returnType := some (.object "java/util/List") }, accessFlags := 136, code := some k17c2 }
/-- java/util/ImmutableCollections -/
def k17 : Class := { plain "java/util/ImmutableCollections" (some 0) with
  accessFlags := 32
  interfaces := #[]
  cf := some (fileOf pool17 47 #[.nestMembers #[120, 169, 171, 173, 175, 111, 177, 179, 181, 183, 12, 10, 185, 187, 189, 191, 193, 195]] #[{ accessFlags := 2, nameIndex := 5, descriptorIndex := 6, attributes := #[] }, { accessFlags := 8, nameIndex := 142, descriptorIndex := 143, attributes := #[] }, { accessFlags := 136, nameIndex := 151, descriptorIndex := 36, attributes := #[] }] 32 2 #[] #[{ accessFlags := 26, nameIndex := 95, descriptorIndex := 96, attributes := #[] }, { accessFlags := 26, nameIndex := 99, descriptorIndex := 17, attributes := #[] }, { accessFlags := 10, nameIndex := 106, descriptorIndex := 56, attributes := #[] }, { accessFlags := 26, nameIndex := 109, descriptorIndex := 110, attributes := #[] }, { accessFlags := 24, nameIndex := 62, descriptorIndex := 63, attributes := #[] }, { accessFlags := 24, nameIndex := 72, descriptorIndex := 63, attributes := #[] }, { accessFlags := 24, nameIndex := 118, descriptorIndex := 119, attributes := #[] }, { accessFlags := 24, nameIndex := 125, descriptorIndex := 126, attributes := #[] }, { accessFlags := 24, nameIndex := 131, descriptorIndex := 132, attributes := #[] }, { accessFlags := 4120, nameIndex := 50, descriptorIndex := 17, attributes := #[] }])
  fields := #[{ name := "SALT32L", type := .long, accessFlags := 26, slot := 0, constantValue := 0 }, { name := "REVERSE", type := .boolean, accessFlags := 26, slot := 1, constantValue := 0 }, { name := "archivedObjects", type := (.array (.object "java/lang/Object")), accessFlags := 10, slot := 2, constantValue := 0 }, { name := "EMPTY", type := (.object "java/lang/Object"), accessFlags := 26, slot := 3, constantValue := 0 }, { name := "EMPTY_LIST", type := (.object "java/util/ImmutableCollections$ListN"), accessFlags := 24, slot := 4, constantValue := 0 }, { name := "EMPTY_LIST_NULLS", type := (.object "java/util/ImmutableCollections$ListN"), accessFlags := 24, slot := 5, constantValue := 0 }, { name := "EMPTY_SET", type := (.object "java/util/ImmutableCollections$SetN"), accessFlags := 24, slot := 6, constantValue := 0 }, { name := "EMPTY_MAP", type := (.object "java/util/ImmutableCollections$MapN"), accessFlags := 24, slot := 7, constantValue := 0 }, { name := "EXPAND_FACTOR", type := .int, accessFlags := 24, slot := 8, constantValue := 0 }, { name := "$assertionsDisabled", type := .boolean, accessFlags := 4120, slot := 9, constantValue := 0 }]
  methods := #[k17m0, k17m1, k17m2]
  instanceTypes := #[]
  staticTypes := #[.long, .boolean, (.array (.object "java/lang/Object")), (.object "java/lang/Object"), (.object "java/util/ImmutableCollections$ListN"), (.object "java/util/ImmutableCollections$ListN"), (.object "java/util/ImmutableCollections$SetN"), (.object "java/util/ImmutableCollections$MapN"), .int, .boolean]
  resolved := Array.replicate 213 none
  statics := some 1 }

def pool18 : Array CpInfo := pool [(1, .methodref 2 3), (0, .class_ 4), (0, .nameAndType 5 6), (0, u "java/util/AbstractCollection"), (0, u "<init>"), (0, u "()V"), (1, .class_ 10), (1, u "java/util/ImmutableCollections"), (2, .class_ 14), (0, u "java/util/ImmutableCollections$AbstractImmutableCollection")] 41

def k18c0 : Code := { maxStack := 1, maxLocals := 1, code := jdk_47_method_1_code, exceptionTable := #[], attributes := #[] }
def k18m0 : Method := { name := "<init>", desc := "()V", sig := { parameters := [], returnType := none }, accessFlags := 0, code := some k18c0 }
/-- java/util/ImmutableCollections$AbstractImmutableCollection -/
def k18 : Class := { plain "java/util/ImmutableCollections$AbstractImmutableCollection" (some 7) with
  accessFlags := 1056
  interfaces := #[]
  cf := some (fileOf pool18 13 #[.nestHost 8] #[{ accessFlags := 0, nameIndex := 5, descriptorIndex := 6, attributes := #[] }] 1056 2 #[] #[])
  fields := #[]
  methods := #[k18m0]
  instanceTypes := #[]
  staticTypes := #[]
  resolved := Array.replicate 56 none
  statics := none }

def pool19 : Array CpInfo := pool [(1, .methodref 2 3), (0, .class_ 4), (0, .nameAndType 5 6), (0, u "java/util/ImmutableCollections$AbstractImmutableCollection"), (0, u "<init>"), (0, u "()V"), (1, .class_ 10), (1, u "java/util/ImmutableCollections"), (3, .class_ 16), (1, u "java/util/ImmutableCollections$AbstractImmutableList"), (60, .class_ 78), (0, u "java/util/List"), (45, .class_ 125), (0, u "java/util/RandomAccess")] 70

def k19c0 : Code := { maxStack := 1, maxLocals := 1, code := jdk_46_method_1_code, exceptionTable := #[], attributes := #[] }
def k19m0 : Method := { name := "<init>", desc := "()V", sig := { parameters := [], returnType := none }, accessFlags := 0, code := some k19c0 }
/-- java/util/ImmutableCollections$AbstractImmutableList -/
def k19 : Class := { plain "java/util/ImmutableCollections$AbstractImmutableList" (some 18) with
  accessFlags := 1056
  interfaces := #[9, 11]
  cf := some (fileOf pool19 14 #[.nestHost 8] #[{ accessFlags := 0, nameIndex := 5, descriptorIndex := 6, attributes := #[] }] 1056 2 #[77, 124] #[])
  fields := #[]
  methods := #[k19m0]
  instanceTypes := #[]
  staticTypes := #[]
  resolved := Array.replicate 196 none
  statics := none }

def pool20 : Array CpInfo := pool [(1, .methodref 2 3), (0, .class_ 4), (0, .nameAndType 5 6), (0, u "java/util/ImmutableCollections$AbstractImmutableList"), (0, u "<init>"), (0, u "()V"), (0, .methodref 8 9), (0, .class_ 10), (0, .nameAndType 11 12), (0, u "java/util/Objects"), (0, u "requireNonNull"), (0, u "(Ljava/lang/Object;)Ljava/lang/Object;"), (0, .fieldref 14 15), (0, .class_ 16), (0, .nameAndType 17 18), (0, u "java/util/ImmutableCollections$List12"), (0, u "e0"), (0, u "Ljava/lang/Object;"), (0, .fieldref 20 21), (0, .class_ 22), (0, .nameAndType 23 18), (0, u "java/util/ImmutableCollections"), (0, u "EMPTY"), (0, .fieldref 14 25), (0, .nameAndType 26 18), (0, u "e1"), (43, .class_ 71), (0, u "java/io/Serializable"), (4, u "(Ljava/lang/Object;)V"), (8, u "(Ljava/lang/Object;Ljava/lang/Object;)V"), (2, u "isEmpty"), (0, u "()Z")] 35

def k20c0 : Code := { maxStack := 2, maxLocals := 2, code := jdk_44_method_1_code, exceptionTable := #[], attributes := #[] }
def k20m0 : Method := { name := "<init>", desc := "(Ljava/lang/Object;)V", sig := { parameters := [(.object "java/lang/Object")], returnType := none }, accessFlags := 0, code := some k20c0 }
def k20c1 : Code := { maxStack := 2, maxLocals := 3, code := jdk_44_method_2_code, exceptionTable := #[], attributes := #[] }
def k20m1 : Method := { name := "<init>", desc := "(Ljava/lang/Object;Ljava/lang/Object;)V", sig := { parameters := [(.object "java/lang/Object"), (.object "java/lang/Object")], returnType := none }, accessFlags := 0, code := some k20c1 }
def k20c2 : Code := { maxStack := 1, maxLocals := 1, code := jdk_44_method_4_code, exceptionTable := #[], attributes := #[] }
def k20m2 : Method := { name := "isEmpty", desc := "()Z", sig := { parameters := [], returnType := some .boolean }, accessFlags := 1, code := some k20c2 }
/-- java/util/ImmutableCollections$List12 -/
def k20 : Class := { plain "java/util/ImmutableCollections$List12" (some 19) with
  accessFlags := 48
  interfaces := #[13]
  cf := some (fileOf pool20 14 #[.nestHost 20] #[{ accessFlags := 0, nameIndex := 5, descriptorIndex := 76, attributes := #[] }, { accessFlags := 0, nameIndex := 5, descriptorIndex := 85, attributes := #[] }, { accessFlags := 1, nameIndex := 88, descriptorIndex := 89, attributes := #[] }] 48 2 #[70] #[{ accessFlags := 18, nameIndex := 17, descriptorIndex := 18, attributes := #[] }, { accessFlags := 18, nameIndex := 26, descriptorIndex := 18, attributes := #[] }])
  fields := #[{ name := "e0", type := (.object "java/lang/Object"), accessFlags := 18, slot := 0, constantValue := 0 }, { name := "e1", type := (.object "java/lang/Object"), accessFlags := 18, slot := 1, constantValue := 0 }]
  methods := #[k20m0, k20m1, k20m2]
  instanceTypes := #[(.object "java/lang/Object"), (.object "java/lang/Object")]
  staticTypes := #[]
  resolved := Array.replicate 125 none
  statics := none }

def pool21 : Array CpInfo := pool [(1, .methodref 2 3), (0, .class_ 4), (0, .nameAndType 5 6), (0, u "java/util/ImmutableCollections$AbstractImmutableList"), (0, u "<init>"), (0, u "()V"), (0, .fieldref 8 9), (0, .class_ 10), (0, .nameAndType 11 12), (0, u "java/util/ImmutableCollections$ListN"), (0, u "elements"), (0, u "[Ljava/lang/Object;"), (0, .fieldref 8 14), (0, .nameAndType 15 16), (0, u "allowNulls"), (0, u "Z"), (42, .class_ 60), (0, u "java/io/Serializable"), (4, u "([Ljava/lang/Object;Z)V"), (8, u "isEmpty"), (0, u "()Z"), (38, .class_ 115), (0, u "java/util/ImmutableCollections")] 3

def k21c0 : Code := { maxStack := 2, maxLocals := 3, code := jdk_45_method_1_code, exceptionTable := #[], attributes := #[] }
def k21m0 : Method := { name := "<init>", desc := "([Ljava/lang/Object;Z)V", sig := { parameters := [(.array (.object "java/lang/Object")), .boolean], returnType := none }, accessFlags := 2, code := some k21c0 }
def k21c1 : Code := { maxStack := 1, maxLocals := 1, code := jdk_45_method_2_code, exceptionTable := #[], attributes := #[] }
def k21m1 : Method := { name := "isEmpty", desc := "()Z", sig := { parameters := [], returnType := some .boolean }, accessFlags := 1, code := some k21c1 }
/-- java/util/ImmutableCollections$ListN -/
def k21 : Class := { plain "java/util/ImmutableCollections$ListN" (some 19) with
  accessFlags := 48
  interfaces := #[13]
  cf := some (fileOf pool21 8 #[.nestHost 114] #[{ accessFlags := 2, nameIndex := 5, descriptorIndex := 65, attributes := #[] }, { accessFlags := 1, nameIndex := 74, descriptorIndex := 75, attributes := #[] }] 48 2 #[59] #[{ accessFlags := 18, nameIndex := 11, descriptorIndex := 12, attributes := #[] }, { accessFlags := 18, nameIndex := 15, descriptorIndex := 16, attributes := #[] }])
  fields := #[{ name := "elements", type := (.array (.object "java/lang/Object")), accessFlags := 18, slot := 0, constantValue := 0 }, { name := "allowNulls", type := .boolean, accessFlags := 18, slot := 1, constantValue := 0 }]
  methods := #[k21m0, k21m1]
  instanceTypes := #[(.array (.object "java/lang/Object")), .boolean]
  staticTypes := #[]
  resolved := Array.replicate 119 none
  statics := none }

def pool22 : Array CpInfo := pool [(2, .class_ 4), (1, u "java/lang/Object"), (0, u "<init>"), (0, u "()V"), (7, .class_ 16), (1, u "java/util/Arrays"), (57, .class_ 76), (1, u "java/util/Arrays$NaturalOrder"), (9, .methodref 2 87), (0, .nameAndType 88 89), (0, u "getClass"), (0, u "()Ljava/lang/Class;"), (20, .class_ 111), (0, u "[Ljava/lang/Object;"), (1, .class_ 115), (1, u "java/util/Arrays$LegacyMergeSort"), (1, u "Z"), (32, .methodref 151 152), (0, .class_ 153), (0, .nameAndType 154 155), (0, u "java/lang/System"), (0, u "arraycopy"), (0, u "(Ljava/lang/Object;ILjava/lang/Object;II)V"), (144, .methodref 14 301), (0, .nameAndType 302 303), (0, u "copyOf"), (0, u "([Ljava/lang/Object;ILjava/lang/Class;)[Ljava/lang/Object;"), (0, .methodref 305 306), (0, .class_ 307), (0, .nameAndType 308 309), (0, u "java/lang/Math"), (0, u "min"), (0, u "(II)I"), (65, .class_ 376), (0, u "java/util/Arrays$ArrayList"), (68, u "$assertionsDisabled"), (269, u "MIN_ARRAY_SORT_GRAN"), (0, u "I"), (2, u "INSERTIONSORT_THRESHOLD"), (140, u "([Ljava/lang/Object;I)[Ljava/lang/Object;"), (114, .class_ 976), (0, u "java/util/Arrays$ArrayItr")] 52

def k22m0 : Method := { name := "<init>", desc := "()V", sig := { parameters := [], returnType := none }, accessFlags := 2, code := none }
def k22c1 : Code := { maxStack := 3, maxLocals := 2, code := jdk_65_method_119_code, exceptionTable := #[], attributes := #[] }
def k22m1 : Method := { name := "copyOf", desc := "([Ljava/lang/Object;I)[Ljava/lang/Object;", sig := { parameters := [(.array (.object "java/lang/Object")), .int], returnType := some (.array (.object "java/lang/Object")) }, accessFlags := 9, code := some k22c1 }
def k22c2 : Code := { maxStack := 6, maxLocals := 4, code := jdk_65_method_120_code, exceptionTable := #[], attributes := #[] }
def k22m2 : Method := { name := "copyOf", desc := "([Ljava/lang/Object;ILjava/lang/Class;)[Ljava/lang/Object;", sig := { parameters := [(.array (.object "java/lang/Object")), .int, (.object "java/lang/Class")], returnType := some (.array (.object "java/lang/Object")) }, accessFlags := 9, code := some k22c2 }
/-- java/util/Arrays -/
def k22 : Class := { plain "java/util/Arrays" (some 0) with
  accessFlags := 49
  interfaces := #[]
  cf := some (fileOf pool22 14 #[.nestMembers #[975, 375, 113, 74]] #[{ accessFlags := 2, nameIndex := 5, descriptorIndex := 6, attributes := #[] }, { accessFlags := 9, nameIndex := 302, descriptorIndex := 860, attributes := #[] }, { accessFlags := 9, nameIndex := 302, descriptorIndex := 303, attributes := #[] }] 49 2 #[] #[{ accessFlags := 26, nameIndex := 715, descriptorIndex := 716, attributes := #[] }, { accessFlags := 26, nameIndex := 719, descriptorIndex := 716, attributes := #[] }, { accessFlags := 4120, nameIndex := 445, descriptorIndex := 117, attributes := #[] }])
  fields := #[{ name := "MIN_ARRAY_SORT_GRAN", type := .int, accessFlags := 26, slot := 0, constantValue := 0 }, { name := "INSERTIONSORT_THRESHOLD", type := .int, accessFlags := 26, slot := 1, constantValue := 0 }, { name := "$assertionsDisabled", type := .boolean, accessFlags := 4120, slot := 2, constantValue := 0 }]
  methods := #[k22m0, k22m1, k22m2]
  instanceTypes := #[]
  staticTypes := #[.int, .int, .boolean]
  resolved := Array.replicate 1029 none
  statics := none }

def pool23 : Array CpInfo := pool [(2, .class_ 4), (1, u "java/lang/Object"), (0, u "<init>"), (0, u "()V"), (1, .class_ 10), (1, u "java/lang/System"), (0, u "allowSecurityManager"), (0, u "I"), (16, u "cons"), (0, u "Ljava/io/Console;"), (77, .class_ 110), (1, u "java/lang/System$CallersHolder"), (43, u "initialErrStream"), (0, u "Ljava/io/PrintStream;"), (19, u "security"), (0, u "Ljava/lang/SecurityManager;"), (31, .class_ 209), (0, u "java/lang/System$1"), (7, u "props"), (0, u "Ljava/util/Properties;"), (2, u "lineSeparator"), (0, u "Ljava/lang/String;"), (96, .class_ 321), (1, u "java/lang/System$LoggerFinder"), (5, .class_ 328), (0, u "java/lang/System$Logger"), (67, u "err"), (2, u "out"), (91, u "notSupportedJnuEncoding"), (15, u "in"), (17, u "initialIn"), (0, u "Ljava/io/InputStream;"), (35, u "bootLayer"), (0, u "Ljava/lang/ModuleLayer;"), (99, .class_ 664), (0, u "java/lang/System$2"), (9, u "NEVER"), (2, u "MAYBE"), (49, u "arraycopy"), (0, u "(Ljava/lang/Object;ILjava/lang/Object;II)V"), (72, .class_ 802), (0, u "java/lang/System$Logger$Level")] 31

def k23m0 : Method := { name := "<init>", desc := "()V", sig := { parameters := [], returnType := none }, accessFlags := 2, code := none }
def k23m1 : Method := { name := "arraycopy", desc := "(Ljava/lang/Object;ILjava/lang/Object;II)V", sig := { parameters := [(.object "java/lang/Object"), .int, (.object "java/lang/Object"), .int, .int], returnType := none }, accessFlags := 265, code := none }
/-- java/lang/System -/
def k23 : Class := { plain "java/lang/System" (some 0) with
  accessFlags := 49
  interfaces := #[]
  cf := some (fileOf pool23 8 #[.nestMembers #[319, 327, 801, 108, 663, 208]] #[{ accessFlags := 2, nameIndex := 5, descriptorIndex := 6, attributes := #[] }, { accessFlags := 265, nameIndex := 727, descriptorIndex := 728, attributes := #[] }] 49 2 #[] #[{ accessFlags := 25, nameIndex := 507, descriptorIndex := 526, attributes := #[] }, { accessFlags := 25, nameIndex := 399, descriptorIndex := 155, attributes := #[] }, { accessFlags := 25, nameIndex := 396, descriptorIndex := 155, attributes := #[] }, { accessFlags := 10, nameIndex := 525, descriptorIndex := 526, attributes := #[] }, { accessFlags := 26, nameIndex := 674, descriptorIndex := 12, attributes := #[] }, { accessFlags := 26, nameIndex := 677, descriptorIndex := 12, attributes := #[] }, { accessFlags := 10, nameIndex := 11, descriptorIndex := 12, attributes := #[] }, { accessFlags := 74, nameIndex := 175, descriptorIndex := 176, attributes := #[] }, { accessFlags := 10, nameIndex := 491, descriptorIndex := 222, attributes := #[] }, { accessFlags := 74, nameIndex := 29, descriptorIndex := 30, attributes := #[] }, { accessFlags := 74, nameIndex := 154, descriptorIndex := 155, attributes := #[] }, { accessFlags := 10, nameIndex := 217, descriptorIndex := 218, attributes := #[] }, { accessFlags := 10, nameIndex := 221, descriptorIndex := 222, attributes := #[] }, { accessFlags := 8, nameIndex := 562, descriptorIndex := 563, attributes := #[] }])
  fields := #[{ name := "in", type := (.object "java/io/InputStream"), accessFlags := 25, slot := 0, constantValue := 0 }, { name := "out", type := (.object "java/io/PrintStream"), accessFlags := 25, slot := 1, constantValue := 0 }, { name := "err", type := (.object "java/io/PrintStream"), accessFlags := 25, slot := 2, constantValue := 0 }, { name := "initialIn", type := (.object "java/io/InputStream"), accessFlags := 10, slot := 3, constantValue := 0 }, { name := "NEVER", type := .int, accessFlags := 26, slot := 4, constantValue := 0 }, { name := "MAYBE", type := .int, accessFlags := 26, slot := 5, constantValue := 0 }, { name := "allowSecurityManager", type := .int, accessFlags := 10, slot := 6, constantValue := 0 }, { name := "security", type := (.object "java/lang/SecurityManager"), accessFlags := 74, slot := 7, constantValue := 0 }, { name := "notSupportedJnuEncoding", type := (.object "java/lang/String"), accessFlags := 10, slot := 8, constantValue := 0 }, { name := "cons", type := (.object "java/io/Console"), accessFlags := 74, slot := 9, constantValue := 0 }, { name := "initialErrStream", type := (.object "java/io/PrintStream"), accessFlags := 74, slot := 10, constantValue := 0 }, { name := "props", type := (.object "java/util/Properties"), accessFlags := 10, slot := 11, constantValue := 0 }, { name := "lineSeparator", type := (.object "java/lang/String"), accessFlags := 10, slot := 12, constantValue := 0 }, { name := "bootLayer", type := (.object "java/lang/ModuleLayer"), accessFlags := 8, slot := 13, constantValue := 0 }]
  methods := #[k23m0, k23m1]
  instanceTypes := #[]
  staticTypes := #[(.object "java/io/InputStream"), (.object "java/io/PrintStream"), (.object "java/io/PrintStream"), (.object "java/io/InputStream"), .int, .int, .int, (.object "java/lang/SecurityManager"), (.object "java/lang/String"), (.object "java/io/Console"), (.object "java/io/PrintStream"), (.object "java/util/Properties"), (.object "java/lang/String"), (.object "java/lang/ModuleLayer")]
  resolved := Array.replicate 834 none
  statics := none }

def pool24 : Array CpInfo := pool [(2, .class_ 4), (1, u "java/lang/Object"), (0, u "<init>"), (0, u "()V"), (35, .class_ 44), (1, u "java/util/Objects"), (0, u "requireNonNull"), (0, u "(Ljava/lang/Object;)Ljava/lang/Object;")] 137

def k24m0 : Method := { name := "<init>", desc := "()V", sig := { parameters := [], returnType := none }, accessFlags := 2, code := none }
def k24c1 : Code := { maxStack := 2, maxLocals := 1, code := jdk_31_method_10_code, exceptionTable := #[], attributes := #[] }
def k24m1 : Method := { name := "requireNonNull", desc := "(Ljava/lang/Object;)Ljava/lang/Object;", sig := { parameters := [(.object "java/lang/Object")], returnType := some (.object "java/lang/Object") }, accessFlags := 9, code := some k24c1 }
/-- java/util/Objects -/
def k24 : Class := { plain "java/util/Objects" (some 0) with
  accessFlags := 49
  interfaces := #[]
  cf := some (fileOf pool24 42 #[] #[{ accessFlags := 2, nameIndex := 5, descriptorIndex := 6, attributes := #[] }, { accessFlags := 9, nameIndex := 45, descriptorIndex := 46, attributes := #[] }] 49 2 #[] #[])
  fields := #[]
  methods := #[k24m0, k24m1]
  instanceTypes := #[]
  staticTypes := #[]
  resolved := Array.replicate 184 none
  statics := none }

def pool25 : Array CpInfo := pool [(1, u "java/lang/Class"), (0, .class_ 1), (0, u "java/lang/Object"), (0, .class_ 3)] 0

/-- java/lang/Class -/
def k25 : Class := { plain "java/lang/Class" (some 0) with
  accessFlags := 49
  interfaces := #[]
  cf := some (fileOf pool25 2 #[] #[] 49 4 #[] #[])
  fields := #[]
  methods := #[]
  instanceTypes := #[]
  staticTypes := #[]
  resolved := Array.replicate 5 none
  statics := none }

/-- the primitive byte -/
def k26 : Class := { plain "byte" none with kind := .primitive 'B', accessFlags := 0x411 }
/-- [B -/
def k27 : Class := { plain "[B" (some 0) with kind := .array 26 .byte, interfaces := #[12, 13], accessFlags := 1041 }

/-- the primitive int -/
def k28 : Class := { plain "int" none with kind := .primitive 'I', accessFlags := 0x411 }
/-- [I -/
def k29 : Class := { plain "[I" (some 0) with kind := .array 28 .int, interfaces := #[12, 13], accessFlags := 1041 }

/-- [Ljava/lang/Object; -/
def k30 : Class := { plain "[Ljava/lang/Object;" (some 0) with mirror := some 2, kind := .array 0 (.object "java/lang/Object"), interfaces := #[12, 13], accessFlags := 1041 }

def heap : Heap := #[{ cls := 14, slots := #[.long 0, .int 0, .ref 5, .ref 6], vm := .statics 14 },
  { cls := 17, slots := #[.long 0, .int 0, .null, .ref 7, .ref 4, .null, .null, .null, .int 0, .int 1], vm := .statics 17 },
  { cls := 25, slots := #[], vm := .mirror 30 },
  { cls := 30, slots := #[], vm := .none },
  { cls := 21, slots := #[.ref 3, .int 0], vm := .none },
  { cls := 30, slots := #[], vm := .none },
  { cls := 30, slots := #[], vm := .none },
  { cls := 0, slots := #[], vm := .none }]
def classes : Array Class := #[k0, k1, k2, k3, k4, k5, k6, k7, k8, k9, k10, k11, k12, k13, k14, k15, k16, k17, k18, k19, k20, k21, k22, k23, k24, k25, k26, k27, k28, k29, k30]
def interned : List (Array UInt16 × Addr) := []
def slotsUsed : Nat := 16
def theMethod : MethodId := ⟨1, 1⟩
def args0 : Array Value := #[.int 5, .int 5]
def aboutOver (below : List Frame) : State where
  vm := { classes := classes, interned := interned.toArray }
  heap := heap
  slotsUsed := slotsUsed
  threads := #[{ frames := .invoking theMethod args0 :: below }]
def below0 : List Frame := [.native { method := ⟨0, 0⟩, args := #[] }]
def about1 : State := aboutOver below0
def p0 : Program := .bare "" "" ""
def e0 : Env := launch0.env 0 0 0
theorem w_frames : about1.frames = Frame.invoking theMethod args0 :: below0 := rfl
set_option maxRecDepth 65536 in
theorem w_args : argsFit about1.vm theMethod args0 = true := by decide +kernel
set_option maxRecDepth 65536 in
theorem w_heap : heapFits about1 = true := by decide +kernel
set_option maxRecDepth 65536 in
theorem w_runnable : about1.curStatus? = some .runnable := by decide +kernel
set_option maxRecDepth 65536 in
theorem w_alone : about1.alone = true := by decide +kernel
set_option maxRecDepth 65536 in
theorem w_named : about1.methodNamed? x = some theMethod := by decide +kernel
set_option maxRecDepth 65536 in
theorem w_hears : about1.hears theMethod below0 = true := by decide +kernel
set_option maxRecDepth 65536 in
theorem w_ripe : about1.ripe theMethod args0 below0 = true := by decide +kernel
theorem w_running : about1.status = .running := rfl
set_option maxRecDepth 65536 in
theorem w_room : about1.hasRoom e0.platform room_1 = true :=
  launch0.hasRoom_least _ room_1 (by decide +kernel) (by decide +kernel) (by decide +kernel) (by decide +kernel) (by decide +kernel) (by decide +kernel)
theorem allAtoms_all (ts : List Jvm.Cond) (a : Array Jvm.Value) (st : Jvm.State) : (allAtoms ts).before a st = ts.all (fun c => c.before a st) := by
  induction ts with
  | nil => rfl
  | cons c t ih =>
    show (Jvm.Cond.and c (allAtoms t)).before a st = _
    rw [Jvm.Cond.before_and, ih, List.all_cons]
def words1 : List Jvm.Cond := Jvm.Cond.code x code maxLocals ret :: tables_1
/-- a 'code' word, met by the world's own term for the bytes: nothing is compared byte by byte -/
theorem code_word {y : MethodName} {bytes : ByteArray} {mx : Nat} {rt : Option FieldType} {a : Array Value} {s : State} {m : MethodId} {meth : Method} {c : Code} (h1 : s.methodNamed? y = some m) (h2 : s.vm.method? m = some meth) (h3 : meth.code = some c) (h4 : c.code = bytes)
    (h5 : (c.maxLocals == mx && c.exceptionTable.isEmpty && decide (c.maxStack ≤ mostOperands) && decide (meth.sig.returnType = rt) && !meth.locks && decide (parseMethodDescriptor y.desc = some meth.sig)) = true) : (Jvm.Cond.code y bytes mx rt).before a s = true := by
  simp only [Bool.and_eq_true, beq_iff_eq, Bool.not_eq_true', decide_eq_true_eq] at h5
  obtain ⟨⟨⟨⟨⟨g1, g2⟩, g3⟩, g4⟩, g5⟩, g6⟩ := h5
  simp [Cond.before, Cond.holds, Cond.value, h1, h2, h3, h4, g1, g2, g3, g4, g5, g6]
def isCode : Jvm.Cond → Bool
  | .code _ _ _ _ => true
  | _ => false
theorem all_split {L : List Jvm.Cond} {P : Jvm.Cond → Bool} (h1 : L.all (fun c => isCode c || P c) = true) (h2 : ∀ c ∈ L.filter isCode, P c = true) : L.all P = true := by
  refine List.all_eq_true.mpr fun c hc => ?_
  have h := List.all_eq_true.mp h1 c hc
  rcases Bool.eq_false_or_eq_true (isCode c) with hi | hi
  · exact h2 c (List.mem_filter.mpr ⟨hc, hi⟩)
  · simpa [hi] using h
set_option maxRecDepth 65536 in
theorem w_c0 : (Jvm.Cond.code x code maxLocals ret).before args0 about1 = true := code_word (m := ⟨1, 1⟩) (meth := k1m1) (c := k1c1) (by decide +kernel) rfl rfl rfl (by decide +kernel)
set_option maxRecDepth 65536 in
theorem w_c1 : (Jvm.Cond.code ({ cls := "com/example/atropos/atropos/ops/Excess$Span", name := "<init>", desc := "(Lcom/example/atropos/atropos/model/Rational;Lcom/example/atropos/atropos/model/Rational;)V" } : Jvm.MethodName) prog_45_method_1_code (3 : Nat) (Option.none : Option Jvm.ClassFile.FieldType)).before args0 about1 = true := code_word (m := ⟨3, 0⟩) (meth := k3m0) (c := k3c0) (by decide +kernel) rfl rfl rfl (by decide +kernel)
set_option maxRecDepth 65536 in
theorem w_c2 : (Jvm.Cond.code ({ cls := "java/lang/Record", name := "<init>", desc := "()V" } : Jvm.MethodName) jdk_30_method_1_code (1 : Nat) (Option.none : Option Jvm.ClassFile.FieldType)).before args0 about1 = true := code_word (m := ⟨2, 0⟩) (meth := k2m0) (c := k2c0) (by decide +kernel) rfl rfl rfl (by decide +kernel)
set_option maxRecDepth 65536 in
theorem w_c3 : (Jvm.Cond.code ({ cls := "java/lang/Object", name := "<init>", desc := "()V" } : Jvm.MethodName) object_method_1_code (1 : Nat) (Option.none : Option Jvm.ClassFile.FieldType)).before args0 about1 = true := code_word (m := ⟨0, 0⟩) (meth := k0m0) (c := k0c0) (by decide +kernel) rfl rfl rfl (by decide +kernel)
set_option maxRecDepth 65536 in
theorem w_c4 : (Jvm.Cond.code ({ cls := "com/example/atropos/atropos/ops/Excess$Rate", name := "<init>", desc := "(Lcom/example/atropos/atropos/model/Rational;Lcom/example/atropos/atropos/model/Rational;Lcom/example/atropos/atropos/model/Rational;Lcom/example/atropos/atropos/model/Rational;)V" } : Jvm.MethodName) prog_44_method_1_code (5 : Nat) (Option.none : Option Jvm.ClassFile.FieldType)).before args0 about1 = true := code_word (m := ⟨4, 0⟩) (meth := k4m0) (c := k4c0) (by decide +kernel) rfl rfl rfl (by decide +kernel)
set_option maxRecDepth 65536 in
theorem w_c5 : (Jvm.Cond.code ({ cls := "java/util/ArrayList", name := "<init>", desc := "()V" } : Jvm.MethodName) jdk_38_method_2_code (1 : Nat) (Option.none : Option Jvm.ClassFile.FieldType)).before args0 about1 = true := code_word (m := ⟨14, 0⟩) (meth := k14m0) (c := k14c0) (by decide +kernel) rfl rfl rfl (by decide +kernel)
set_option maxRecDepth 65536 in
theorem w_c6 : (Jvm.Cond.code ({ cls := "java/util/AbstractList", name := "<init>", desc := "()V" } : Jvm.MethodName) jdk_39_method_1_code (1 : Nat) (Option.none : Option Jvm.ClassFile.FieldType)).before args0 about1 = true := code_word (m := ⟨10, 0⟩) (meth := k10m0) (c := k10c0) (by decide +kernel) rfl rfl rfl (by decide +kernel)
set_option maxRecDepth 65536 in
theorem w_c7 : (Jvm.Cond.code ({ cls := "java/util/AbstractCollection", name := "<init>", desc := "()V" } : Jvm.MethodName) jdk_22_method_1_code (1 : Nat) (Option.none : Option Jvm.ClassFile.FieldType)).before args0 about1 = true := code_word (m := ⟨7, 0⟩) (meth := k7m0) (c := k7c0) (by decide +kernel) rfl rfl rfl (by decide +kernel)
set_option maxRecDepth 65536 in
theorem w_c8 : (Jvm.Cond.code ({ cls := "java/util/ArrayList", name := "add", desc := "(Ljava/lang/Object;)Z" } : Jvm.MethodName) jdk_38_method_25_code (2 : Nat) (Option.some Jvm.ClassFile.FieldType.boolean)).before args0 about1 = true := code_word (m := ⟨14, 6⟩) (meth := k14m6) (c := k14c6) (by decide +kernel) rfl rfl rfl (by decide +kernel)
set_option maxRecDepth 65536 in
theorem w_c9 : (Jvm.Cond.code ({ cls := "java/util/ArrayList", name := "add", desc := "(Ljava/lang/Object;[Ljava/lang/Object;I)V" } : Jvm.MethodName) jdk_38_method_24_code (4 : Nat) (Option.none : Option Jvm.ClassFile.FieldType)).before args0 about1 = true := code_word (m := ⟨14, 5⟩) (meth := k14m5) (c := k14c5) (by decide +kernel) rfl rfl rfl (by decide +kernel)
set_option maxRecDepth 65536 in
theorem w_c10 : (Jvm.Cond.code ({ cls := "java/util/ArrayList", name := "grow", desc := "()[Ljava/lang/Object;" } : Jvm.MethodName) jdk_38_method_7_code (1 : Nat) (Option.some (Jvm.ClassFile.FieldType.array (Jvm.ClassFile.FieldType.object "java/lang/Object")))).before args0 about1 = true := code_word (m := ⟨14, 2⟩) (meth := k14m2) (c := k14c2) (by decide +kernel) rfl rfl rfl (by decide +kernel)
set_option maxRecDepth 65536 in
theorem w_c11 : (Jvm.Cond.code ({ cls := "java/util/ArrayList", name := "grow", desc := "(I)[Ljava/lang/Object;" } : Jvm.MethodName) jdk_38_method_6_code (4 : Nat) (Option.some (Jvm.ClassFile.FieldType.array (Jvm.ClassFile.FieldType.object "java/lang/Object")))).before args0 about1 = true := code_word (m := ⟨14, 1⟩) (meth := k14m1) (c := k14c1) (by decide +kernel) rfl rfl rfl (by decide +kernel)
set_option maxRecDepth 65536 in
theorem w_c12 : (Jvm.Cond.code ({ cls := "java/lang/Math", name := "max", desc := "(II)I" } : Jvm.MethodName) jdk_29_method_65_code (2 : Nat) (Option.some Jvm.ClassFile.FieldType.int)).before args0 about1 = true := code_word (m := ⟨15, 1⟩) (meth := k15m1) (c := k15c1) (by decide +kernel) rfl rfl rfl (by decide +kernel)
set_option maxRecDepth 65536 in
theorem w_c13 : (Jvm.Cond.code ({ cls := "com/example/atropos/atropos/analysis/Admission", name := "<init>", desc := "(Ljava/util/List;Ljava/util/List;)V" } : Jvm.MethodName) prog_1_method_1_code (3 : Nat) (Option.none : Option Jvm.ClassFile.FieldType)).before args0 about1 = true := code_word (m := ⟨16, 0⟩) (meth := k16m0) (c := k16c0) (by decide +kernel) rfl rfl rfl (by decide +kernel)
set_option maxRecDepth 65536 in
theorem w_c14 : (Jvm.Cond.code ({ cls := "java/util/List", name := "copyOf", desc := "(Ljava/util/Collection;)Ljava/util/List;" } : Jvm.MethodName) jdk_40_method_48_code (1 : Nat) (Option.some (Jvm.ClassFile.FieldType.object "java/util/List"))).before args0 about1 = true := code_word (m := ⟨9, 3⟩) (meth := k9m3) (c := k9c3) (by decide +kernel) rfl rfl rfl (by decide +kernel)
set_option maxRecDepth 65536 in
theorem w_c15 : (Jvm.Cond.code ({ cls := "java/util/ImmutableCollections", name := "listCopy", desc := "(Ljava/util/Collection;)Ljava/util/List;" } : Jvm.MethodName) jdk_56_method_3_code (2 : Nat) (Option.some (Jvm.ClassFile.FieldType.object "java/util/List"))).before args0 about1 = true := code_word (m := ⟨17, 1⟩) (meth := k17m1) (c := k17c1) (by decide +kernel) rfl rfl rfl (by decide +kernel)
set_option maxRecDepth 65536 in
theorem w_c16 : (Jvm.Cond.code ({ cls := "java/util/ArrayList", name := "isEmpty", desc := "()Z" } : Jvm.MethodName) jdk_38_method_9_code (1 : Nat) (Option.some Jvm.ClassFile.FieldType.boolean)).before args0 about1 = true := code_word (m := ⟨14, 3⟩) (meth := k14m3) (c := k14c3) (by decide +kernel) rfl rfl rfl (by decide +kernel)
set_option maxRecDepth 65536 in
theorem w_c17 : (Jvm.Cond.code ({ cls := "java/util/List", name := "of", desc := "()Ljava/util/List;" } : Jvm.MethodName) jdk_40_method_36_code (0 : Nat) (Option.some (Jvm.ClassFile.FieldType.object "java/util/List"))).before args0 about1 = true := code_word (m := ⟨9, 1⟩) (meth := k9m1) (c := k9c1) (by decide +kernel) rfl rfl rfl (by decide +kernel)
set_option maxRecDepth 65536 in
theorem w_c18 : (Jvm.Cond.code ({ cls := "java/util/ArrayList", name := "toArray", desc := "()[Ljava/lang/Object;" } : Jvm.MethodName) jdk_38_method_16_code (1 : Nat) (Option.some (Jvm.ClassFile.FieldType.array (Jvm.ClassFile.FieldType.object "java/lang/Object")))).before args0 about1 = true := code_word (m := ⟨14, 4⟩) (meth := k14m4) (c := k14c4) (by decide +kernel) rfl rfl rfl (by decide +kernel)
set_option maxRecDepth 65536 in
theorem w_c19 : (Jvm.Cond.code ({ cls := "java/util/Arrays", name := "copyOf", desc := "([Ljava/lang/Object;I)[Ljava/lang/Object;" } : Jvm.MethodName) jdk_65_method_119_code (2 : Nat) (Option.some (Jvm.ClassFile.FieldType.array (Jvm.ClassFile.FieldType.object "java/lang/Object")))).before args0 about1 = true := code_word (m := ⟨22, 1⟩) (meth := k22m1) (c := k22c1) (by decide +kernel) rfl rfl rfl (by decide +kernel)
set_option maxRecDepth 65536 in
theorem w_c20 : (Jvm.Cond.code ({ cls := "java/util/Arrays", name := "copyOf", desc := "([Ljava/lang/Object;ILjava/lang/Class;)[Ljava/lang/Object;" } : Jvm.MethodName) jdk_65_method_120_code (4 : Nat) (Option.some (Jvm.ClassFile.FieldType.array (Jvm.ClassFile.FieldType.object "java/lang/Object")))).before args0 about1 = true := code_word (m := ⟨22, 2⟩) (meth := k22m2) (c := k22c2) (by decide +kernel) rfl rfl rfl (by decide +kernel)
set_option maxRecDepth 65536 in
theorem w_c21 : (Jvm.Cond.code ({ cls := "java/lang/Math", name := "min", desc := "(II)I" } : Jvm.MethodName) jdk_29_method_69_code (2 : Nat) (Option.some Jvm.ClassFile.FieldType.int)).before args0 about1 = true := code_word (m := ⟨15, 2⟩) (meth := k15m2) (c := k15c2) (by decide +kernel) rfl rfl rfl (by decide +kernel)
set_option maxRecDepth 65536 in
theorem w_c22 : (Jvm.Cond.code ({ cls := "java/util/List", name := "of", desc := "([Ljava/lang/Object;)Ljava/util/List;" } : Jvm.MethodName) jdk_40_method_47_code (2 : Nat) (Option.some (Jvm.ClassFile.FieldType.object "java/util/List"))).before args0 about1 = true := code_word (m := ⟨9, 2⟩) (meth := k9m2) (c := k9c2) (by decide +kernel) rfl rfl rfl (by decide +kernel)
set_option maxRecDepth 65536 in
theorem w_c23 : (Jvm.Cond.code ({ cls := "java/util/ImmutableCollections", name := "listFromArray", desc := "([Ljava/lang/Object;)Ljava/util/List;" } : Jvm.MethodName) jdk_56_method_4_code (3 : Nat) (Option.some (Jvm.ClassFile.FieldType.object "java/util/List"))).before args0 about1 = true := code_word (m := ⟨17, 2⟩) (meth := k17m2) (c := k17c2) (by decide +kernel) rfl rfl rfl (by decide +kernel)
set_option maxRecDepth 65536 in
theorem w_c24 : (Jvm.Cond.code ({ cls := "java/util/Objects", name := "requireNonNull", desc := "(Ljava/lang/Object;)Ljava/lang/Object;" } : Jvm.MethodName) jdk_31_method_10_code (1 : Nat) (Option.some (Jvm.ClassFile.FieldType.object "java/lang/Object"))).before args0 about1 = true := code_word (m := ⟨24, 1⟩) (meth := k24m1) (c := k24c1) (by decide +kernel) rfl rfl rfl (by decide +kernel)
set_option maxRecDepth 65536 in
theorem w_c25 : (Jvm.Cond.code ({ cls := "java/util/ImmutableCollections$ListN", name := "<init>", desc := "([Ljava/lang/Object;Z)V" } : Jvm.MethodName) jdk_45_method_1_code (3 : Nat) (Option.none : Option Jvm.ClassFile.FieldType)).before args0 about1 = true := code_word (m := ⟨21, 0⟩) (meth := k21m0) (c := k21c0) (by decide +kernel) rfl rfl rfl (by decide +kernel)
set_option maxRecDepth 65536 in
theorem w_c26 : (Jvm.Cond.code ({ cls := "java/util/ImmutableCollections$AbstractImmutableList", name := "<init>", desc := "()V" } : Jvm.MethodName) jdk_46_method_1_code (1 : Nat) (Option.none : Option Jvm.ClassFile.FieldType)).before args0 about1 = true := code_word (m := ⟨19, 0⟩) (meth := k19m0) (c := k19c0) (by decide +kernel) rfl rfl rfl (by decide +kernel)
set_option maxRecDepth 65536 in
theorem w_c27 : (Jvm.Cond.code ({ cls := "java/util/ImmutableCollections$AbstractImmutableCollection", name := "<init>", desc := "()V" } : Jvm.MethodName) jdk_47_method_1_code (1 : Nat) (Option.none : Option Jvm.ClassFile.FieldType)).before args0 about1 = true := code_word (m := ⟨18, 0⟩) (meth := k18m0) (c := k18c0) (by decide +kernel) rfl rfl rfl (by decide +kernel)
set_option maxRecDepth 65536 in
theorem w_c28 : (Jvm.Cond.code ({ cls := "com/example/atropos/atropos/analysis/Admission", name := "admits", desc := "()Z" } : Jvm.MethodName) prog_1_method_3_code (1 : Nat) (Option.some Jvm.ClassFile.FieldType.boolean)).before args0 about1 = true := code_word (m := ⟨16, 1⟩) (meth := k16m1) (c := k16c1) (by decide +kernel) rfl rfl rfl (by decide +kernel)
set_option maxRecDepth 65536 in
theorem w_c29 : (Jvm.Cond.code ({ cls := "java/util/ImmutableCollections$ListN", name := "isEmpty", desc := "()Z" } : Jvm.MethodName) jdk_45_method_2_code (1 : Nat) (Option.some Jvm.ClassFile.FieldType.boolean)).before args0 about1 = true := code_word (m := ⟨21, 1⟩) (meth := k21m1) (c := k21c1) (by decide +kernel) rfl rfl rfl (by decide +kernel)
set_option maxRecDepth 65536 in
theorem w_c30 : (Jvm.Cond.code ({ cls := "java/util/ImmutableCollections$List12", name := "<init>", desc := "(Ljava/lang/Object;Ljava/lang/Object;)V" } : Jvm.MethodName) jdk_44_method_2_code (3 : Nat) (Option.none : Option Jvm.ClassFile.FieldType)).before args0 about1 = true := code_word (m := ⟨20, 1⟩) (meth := k20m1) (c := k20c1) (by decide +kernel) rfl rfl rfl (by decide +kernel)
set_option maxRecDepth 65536 in
theorem w_c31 : (Jvm.Cond.code ({ cls := "java/util/ImmutableCollections$List12", name := "<init>", desc := "(Ljava/lang/Object;)V" } : Jvm.MethodName) jdk_44_method_1_code (2 : Nat) (Option.none : Option Jvm.ClassFile.FieldType)).before args0 about1 = true := code_word (m := ⟨20, 0⟩) (meth := k20m0) (c := k20c0) (by decide +kernel) rfl rfl rfl (by decide +kernel)
set_option maxRecDepth 65536 in
theorem w_c32 : (Jvm.Cond.code ({ cls := "java/util/ImmutableCollections$List12", name := "isEmpty", desc := "()Z" } : Jvm.MethodName) jdk_44_method_4_code (1 : Nat) (Option.some Jvm.ClassFile.FieldType.boolean)).before args0 about1 = true := code_word (m := ⟨20, 2⟩) (meth := k20m2) (c := k20c2) (by decide +kernel) rfl rfl rfl (by decide +kernel)
def codes1 : List Jvm.Cond := [Jvm.Cond.code x code maxLocals ret, Jvm.Cond.code ({ cls := "com/example/atropos/atropos/ops/Excess$Span", name := "<init>", desc := "(Lcom/example/atropos/atropos/model/Rational;Lcom/example/atropos/atropos/model/Rational;)V" } : Jvm.MethodName) prog_45_method_1_code (3 : Nat) (Option.none : Option Jvm.ClassFile.FieldType), Jvm.Cond.code ({ cls := "java/lang/Record", name := "<init>", desc := "()V" } : Jvm.MethodName) jdk_30_method_1_code (1 : Nat) (Option.none : Option Jvm.ClassFile.FieldType), Jvm.Cond.code ({ cls := "java/lang/Object", name := "<init>", desc := "()V" } : Jvm.MethodName) object_method_1_code (1 : Nat) (Option.none : Option Jvm.ClassFile.FieldType), Jvm.Cond.code ({ cls := "com/example/atropos/atropos/ops/Excess$Rate", name := "<init>", desc := "(Lcom/example/atropos/atropos/model/Rational;Lcom/example/atropos/atropos/model/Rational;Lcom/example/atropos/atropos/model/Rational;Lcom/example/atropos/atropos/model/Rational;)V" } : Jvm.MethodName) prog_44_method_1_code (5 : Nat) (Option.none : Option Jvm.ClassFile.FieldType), Jvm.Cond.code ({ cls := "java/util/ArrayList", name := "<init>", desc := "()V" } : Jvm.MethodName) jdk_38_method_2_code (1 : Nat) (Option.none : Option Jvm.ClassFile.FieldType), Jvm.Cond.code ({ cls := "java/util/AbstractList", name := "<init>", desc := "()V" } : Jvm.MethodName) jdk_39_method_1_code (1 : Nat) (Option.none : Option Jvm.ClassFile.FieldType), Jvm.Cond.code ({ cls := "java/util/AbstractCollection", name := "<init>", desc := "()V" } : Jvm.MethodName) jdk_22_method_1_code (1 : Nat) (Option.none : Option Jvm.ClassFile.FieldType), Jvm.Cond.code ({ cls := "java/util/ArrayList", name := "add", desc := "(Ljava/lang/Object;)Z" } : Jvm.MethodName) jdk_38_method_25_code (2 : Nat) (Option.some Jvm.ClassFile.FieldType.boolean), Jvm.Cond.code ({ cls := "java/util/ArrayList", name := "add", desc := "(Ljava/lang/Object;[Ljava/lang/Object;I)V" } : Jvm.MethodName) jdk_38_method_24_code (4 : Nat) (Option.none : Option Jvm.ClassFile.FieldType), Jvm.Cond.code ({ cls := "java/util/ArrayList", name := "grow", desc := "()[Ljava/lang/Object;" } : Jvm.MethodName) jdk_38_method_7_code (1 : Nat) (Option.some (Jvm.ClassFile.FieldType.array (Jvm.ClassFile.FieldType.object "java/lang/Object"))), Jvm.Cond.code ({ cls := "java/util/ArrayList", name := "grow", desc := "(I)[Ljava/lang/Object;" } : Jvm.MethodName) jdk_38_method_6_code (4 : Nat) (Option.some (Jvm.ClassFile.FieldType.array (Jvm.ClassFile.FieldType.object "java/lang/Object"))), Jvm.Cond.code ({ cls := "java/lang/Math", name := "max", desc := "(II)I" } : Jvm.MethodName) jdk_29_method_65_code (2 : Nat) (Option.some Jvm.ClassFile.FieldType.int), Jvm.Cond.code ({ cls := "com/example/atropos/atropos/analysis/Admission", name := "<init>", desc := "(Ljava/util/List;Ljava/util/List;)V" } : Jvm.MethodName) prog_1_method_1_code (3 : Nat) (Option.none : Option Jvm.ClassFile.FieldType), Jvm.Cond.code ({ cls := "java/util/List", name := "copyOf", desc := "(Ljava/util/Collection;)Ljava/util/List;" } : Jvm.MethodName) jdk_40_method_48_code (1 : Nat) (Option.some (Jvm.ClassFile.FieldType.object "java/util/List")), Jvm.Cond.code ({ cls := "java/util/ImmutableCollections", name := "listCopy", desc := "(Ljava/util/Collection;)Ljava/util/List;" } : Jvm.MethodName) jdk_56_method_3_code (2 : Nat) (Option.some (Jvm.ClassFile.FieldType.object "java/util/List")), Jvm.Cond.code ({ cls := "java/util/ArrayList", name := "isEmpty", desc := "()Z" } : Jvm.MethodName) jdk_38_method_9_code (1 : Nat) (Option.some Jvm.ClassFile.FieldType.boolean), Jvm.Cond.code ({ cls := "java/util/List", name := "of", desc := "()Ljava/util/List;" } : Jvm.MethodName) jdk_40_method_36_code (0 : Nat) (Option.some (Jvm.ClassFile.FieldType.object "java/util/List")), Jvm.Cond.code ({ cls := "java/util/ArrayList", name := "toArray", desc := "()[Ljava/lang/Object;" } : Jvm.MethodName) jdk_38_method_16_code (1 : Nat) (Option.some (Jvm.ClassFile.FieldType.array (Jvm.ClassFile.FieldType.object "java/lang/Object"))), Jvm.Cond.code ({ cls := "java/util/Arrays", name := "copyOf", desc := "([Ljava/lang/Object;I)[Ljava/lang/Object;" } : Jvm.MethodName) jdk_65_method_119_code (2 : Nat) (Option.some (Jvm.ClassFile.FieldType.array (Jvm.ClassFile.FieldType.object "java/lang/Object"))), Jvm.Cond.code ({ cls := "java/util/Arrays", name := "copyOf", desc := "([Ljava/lang/Object;ILjava/lang/Class;)[Ljava/lang/Object;" } : Jvm.MethodName) jdk_65_method_120_code (4 : Nat) (Option.some (Jvm.ClassFile.FieldType.array (Jvm.ClassFile.FieldType.object "java/lang/Object"))), Jvm.Cond.code ({ cls := "java/lang/Math", name := "min", desc := "(II)I" } : Jvm.MethodName) jdk_29_method_69_code (2 : Nat) (Option.some Jvm.ClassFile.FieldType.int), Jvm.Cond.code ({ cls := "java/util/List", name := "of", desc := "([Ljava/lang/Object;)Ljava/util/List;" } : Jvm.MethodName) jdk_40_method_47_code (2 : Nat) (Option.some (Jvm.ClassFile.FieldType.object "java/util/List")), Jvm.Cond.code ({ cls := "java/util/ImmutableCollections", name := "listFromArray", desc := "([Ljava/lang/Object;)Ljava/util/List;" } : Jvm.MethodName) jdk_56_method_4_code (3 : Nat) (Option.some (Jvm.ClassFile.FieldType.object "java/util/List")), Jvm.Cond.code ({ cls := "java/util/Objects", name := "requireNonNull", desc := "(Ljava/lang/Object;)Ljava/lang/Object;" } : Jvm.MethodName) jdk_31_method_10_code (1 : Nat) (Option.some (Jvm.ClassFile.FieldType.object "java/lang/Object")), Jvm.Cond.code ({ cls := "java/util/ImmutableCollections$ListN", name := "<init>", desc := "([Ljava/lang/Object;Z)V" } : Jvm.MethodName) jdk_45_method_1_code (3 : Nat) (Option.none : Option Jvm.ClassFile.FieldType), Jvm.Cond.code ({ cls := "java/util/ImmutableCollections$AbstractImmutableList", name := "<init>", desc := "()V" } : Jvm.MethodName) jdk_46_method_1_code (1 : Nat) (Option.none : Option Jvm.ClassFile.FieldType), Jvm.Cond.code ({ cls := "java/util/ImmutableCollections$AbstractImmutableCollection", name := "<init>", desc := "()V" } : Jvm.MethodName) jdk_47_method_1_code (1 : Nat) (Option.none : Option Jvm.ClassFile.FieldType), Jvm.Cond.code ({ cls := "com/example/atropos/atropos/analysis/Admission", name := "admits", desc := "()Z" } : Jvm.MethodName) prog_1_method_3_code (1 : Nat) (Option.some Jvm.ClassFile.FieldType.boolean), Jvm.Cond.code ({ cls := "java/util/ImmutableCollections$ListN", name := "isEmpty", desc := "()Z" } : Jvm.MethodName) jdk_45_method_2_code (1 : Nat) (Option.some Jvm.ClassFile.FieldType.boolean), Jvm.Cond.code ({ cls := "java/util/ImmutableCollections$List12", name := "<init>", desc := "(Ljava/lang/Object;Ljava/lang/Object;)V" } : Jvm.MethodName) jdk_44_method_2_code (3 : Nat) (Option.none : Option Jvm.ClassFile.FieldType), Jvm.Cond.code ({ cls := "java/util/ImmutableCollections$List12", name := "<init>", desc := "(Ljava/lang/Object;)V" } : Jvm.MethodName) jdk_44_method_1_code (2 : Nat) (Option.none : Option Jvm.ClassFile.FieldType), Jvm.Cond.code ({ cls := "java/util/ImmutableCollections$List12", name := "isEmpty", desc := "()Z" } : Jvm.MethodName) jdk_44_method_4_code (1 : Nat) (Option.some Jvm.ClassFile.FieldType.boolean)]
set_option maxRecDepth 65536 in
theorem codes_eq : words1.filter isCode = codes1 := rfl
theorem w_codes : ∀ c ∈ words1.filter isCode, c.before args0 about1 = true := by
  rw [codes_eq]
  intro c hc
  simp only [codes1, List.mem_cons, List.not_mem_nil, or_false] at hc
  rcases hc with rfl | rfl | rfl | rfl | rfl | rfl | rfl | rfl | rfl | rfl | rfl | rfl | rfl | rfl | rfl | rfl | rfl | rfl | rfl | rfl | rfl | rfl | rfl | rfl | rfl | rfl | rfl | rfl | rfl | rfl | rfl | rfl | rfl
  · exact w_c0
  · exact w_c1
  · exact w_c2
  · exact w_c3
  · exact w_c4
  · exact w_c5
  · exact w_c6
  · exact w_c7
  · exact w_c8
  · exact w_c9
  · exact w_c10
  · exact w_c11
  · exact w_c12
  · exact w_c13
  · exact w_c14
  · exact w_c15
  · exact w_c16
  · exact w_c17
  · exact w_c18
  · exact w_c19
  · exact w_c20
  · exact w_c21
  · exact w_c22
  · exact w_c23
  · exact w_c24
  · exact w_c25
  · exact w_c26
  · exact w_c27
  · exact w_c28
  · exact w_c29
  · exact w_c30
  · exact w_c31
  · exact w_c32
set_option maxRecDepth 65536 in
theorem w_t1 : (words1.take 24).all (fun c => isCode c || c.before args0 about1) = true := by decide +kernel
set_option maxRecDepth 65536 in
theorem w_t2 : ((words1.drop 24).take 24).all (fun c => isCode c || c.before args0 about1) = true := by decide +kernel
set_option maxRecDepth 65536 in
theorem w_t3 : (((words1.drop 24).drop 24).take 24).all (fun c => isCode c || c.before args0 about1) = true := by decide +kernel
set_option maxRecDepth 65536 in
theorem w_t4 : ((((words1.drop 24).drop 24).drop 24).take 24).all (fun c => isCode c || c.before args0 about1) = true := by decide +kernel
set_option maxRecDepth 65536 in
theorem w_t5 : (((((words1.drop 24).drop 24).drop 24).drop 24).take 24).all (fun c => isCode c || c.before args0 about1) = true := by decide +kernel
set_option maxRecDepth 65536 in
theorem w_t6 : ((((((words1.drop 24).drop 24).drop 24).drop 24).drop 24).take 24).all (fun c => isCode c || c.before args0 about1) = true := by decide +kernel
set_option maxRecDepth 65536 in
theorem w_t7 : (((((((words1.drop 24).drop 24).drop 24).drop 24).drop 24).drop 24).take 24).all (fun c => isCode c || c.before args0 about1) = true := by decide +kernel
set_option maxRecDepth 65536 in
theorem w_t8 : ((((((((words1.drop 24).drop 24).drop 24).drop 24).drop 24).drop 24).drop 24).take 24).all (fun c => isCode c || c.before args0 about1) = true := by decide +kernel
set_option maxRecDepth 65536 in
theorem w_t9 : (((((((((words1.drop 24).drop 24).drop 24).drop 24).drop 24).drop 24).drop 24).drop 24).take 24).all (fun c => isCode c || c.before args0 about1) = true := by decide +kernel
set_option maxRecDepth 65536 in
theorem w_t10 : (((((((((words1.drop 24).drop 24).drop 24).drop 24).drop 24).drop 24).drop 24).drop 24).drop 24).all (fun c => isCode c || c.before args0 about1) = true := by decide +kernel
theorem w_tables : (allAtoms (Jvm.Cond.code x code maxLocals ret :: tables_1)).before args0 about1 = true := by
  rw [allAtoms_all]
  show words1.all (fun c => c.before args0 about1) = true
  refine all_split ?_ w_codes
  rw [← List.take_append_drop 24 words1, List.all_append, w_t1, ← List.take_append_drop 24 (words1.drop 24), List.all_append, w_t2, ← List.take_append_drop 24 ((words1.drop 24).drop 24), List.all_append, w_t3, ← List.take_append_drop 24 (((words1.drop 24).drop 24).drop 24), List.all_append, w_t4, ← List.take_append_drop 24 ((((words1.drop 24).drop 24).drop 24).drop 24), List.all_append, w_t5, ← List.take_append_drop 24 (((((words1.drop 24).drop 24).drop 24).drop 24).drop 24), List.all_append, w_t6, ← List.take_append_drop 24 ((((((words1.drop 24).drop 24).drop 24).drop 24).drop 24).drop 24), List.all_append, w_t7, ← List.take_append_drop 24 (((((((words1.drop 24).drop 24).drop 24).drop 24).drop 24).drop 24).drop 24), List.all_append, w_t8, ← List.take_append_drop 24 ((((((((words1.drop 24).drop 24).drop 24).drop 24).drop 24).drop 24).drop 24).drop 24), List.all_append, w_t9, w_t10]
  rfl
set_option maxRecDepth 65536 in
theorem w_rest : rest_1_c.before args0 about1 = true := by decide +kernel
set_option maxRecDepth 65536 in
theorem w_case : (Jvm.Cond.and given_1 narrow_1).before args0 about1 = true := by decide +kernel
theorem w_applies : (headSpec (Jvm.Cond.code x code maxLocals ret :: tables_1) room_1).applies x e0.platform about1 = true :=
  (Spec.applies_iff w_frames).mpr ⟨w_running, w_runnable, w_alone, w_named, w_hears, w_ripe, w_room, w_tables⟩
theorem atStart : AtStart classFile x code maxLocals ret World_1 tables_1 room_1 Calls_1 rest_1 Pre_1 launch0 p0 e0 about1 theMethod args0 below0 :=
  ⟨lists_1, trivial, launch0.admits_env _ _ _, launch0.least_env, fairChoices_fair.cas, fairChoices_fair.clock, w_frames, w_args, w_heap, w_applies, ⟨⟨30, k30, 2, by decide +kernel, rfl, rfl, _, rfl, rfl⟩, trivial⟩, w_rest, w_case⟩
end start1
theorem witness_1 : WitnessClaimed_1 := ⟨start1.p0, start1.e0, start1.about1, start1.theMethod, start1.args0, start1.below0, start1.atStart⟩
end Jvm.Pilot.@@N@@
