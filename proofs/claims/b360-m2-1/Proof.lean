import JvmDerived
import JvmDerived.Pilot.@@N@@Statement
import JvmDerived.Pilot.@@N@@Code
set_option linter.unusedVariables false
set_option linter.unusedSimpArgs false
namespace Jvm.Pilot.@@N@@
open Jvm Jvm.ClassFile Sem Op Lib Jvm.Free Jvm.Stand Jvm.LawKit Jvm.RoadKit Bundle Jvm.Pilot.@@N@@.Jvm.D
theorem own_sz {Z : State} {n0 : Nat} {h : Heap} (O : Old Z n0 h) : n0 ≤ h.size := O.1 ▸ O.2.1
theorem own_sta {args : Array Value} {s : State} {C n d K : String} (h : (Jvm.Cond.exactly (.static C n d) K).value args s none s [] = some true) (hi : (Jvm.Cond.initialized C).before args s = true) (hl : (Jvm.Cond.laysStatic C n d).before args s = true) :
    ∃ a, Sta s s.heap C n d (.ref a) ∧ Exa s s.heap a K ∧ (Term.static C n d).eval args s none [] s = some (.ref a) := by
  obtain ⟨a, ev⟩ := exa_v h
  exact ⟨a, Sta.start ev (Or.inr ⟨hi, hl⟩), Exa.start ev h, ev⟩
theorem own_fint {args : Array Value} {s : State} {t : Term} {a : Addr} {C n d : String} {k : Int32} (ev : t.eval args s none [] s = some (.ref a)) (h : (Jvm.Cond.eq (.field t C n d) (.int k)).value args s none s [] = some true) : Fld s s.heap a C n d (.int k) := by
  obtain ⟨x, y, h1, h2, -, -⟩ := cmp_v (Or.inl h)
  cases h2.symm.trans (Term.int_eval k)
  have h3 := h1
  rw [fld_at ev] at h3
  have : x = .int k := by
    cases x <;> simp_all [Cond.value, Term.eval]
  subst this
  exact Fld.start h3
theorem own_fnull {args : Array Value} {s : State} {t : Term} {a : Addr} {C n d : String} (ev : t.eval args s none [] s = some (.ref a)) (h : (Jvm.Cond.eq (.field t C n d) .null).value args s none s [] = some true) : Fld s s.heap a C n d .null := by
  have h1 := null_v h
  rw [fld_at ev] at h1
  exact Fld.start h1
theorem own_fexa {args : Array Value} {s : State} {t : Term} {a : Addr} {C n d K : String} (ev : t.eval args s none [] s = some (.ref a)) (h : (Jvm.Cond.exactly (.field t C n d) K).value args s none s [] = some true) :
    ∃ b, Fld s s.heap a C n d (.ref b) ∧ Exa s s.heap b K ∧ (Term.field t C n d).eval args s none [] s = some (.ref b) := by
  obtain ⟨b, e2⟩ := exa_v h
  have h1 := e2
  rw [fld_at ev] at h1
  exact ⟨b, Fld.start h1, Exa.start e2 h, e2⟩
theorem own_freq {args : Array Value} {s : State} {t u : Term} {a b : Addr} {C n d : String} (ev : t.eval args s none [] s = some (.ref a)) (eu : u.eval args s none [] s = some (.ref b)) (h : (Jvm.Cond.eq (.field t C n d) u).value args s none s [] = some true) : Fld s s.heap a C n d (.ref b) := by
  obtain ⟨x, y, h1, h2, -, -⟩ := cmp_v (Or.inl h)
  cases h2.symm.trans eu
  have h3 := h1
  rw [fld_at ev] at h3
  have : x = .ref b := by
    cases x <;> simp_all [Cond.value]
  subst this
  exact Fld.start h3
theorem own_nn {v : Value} {a : Addr} (h : v = .ref a) : ¬ v = Value.null := by rw [h]; exact nofun
theorem own_nref {n : String} {v : Value} (h : v.isRef = true) : narrow (.object n) v = v := by rcases ref_cases h with rfl | ⟨_, rfl⟩ <;> rfl
theorem own_fref {n : String} {v : Value} (h : v.isRef = true) : fits (.object n) v = true := by rcases ref_cases h with rfl | ⟨_, rfl⟩ <;> rfl
theorem own_nb {z : Int32} (h : z = 0 ∨ z = 1) : narrow .boolean (.int z) = .int z := by rcases h with rfl | rfl <;> rfl
theorem ow0 {a0 : Array Value} {Z : State} (hw : ∀ d ∈ tables_1, d.before a0 Z = true) : (Jvm.Cond.constant "com/example/tallyhouse/tallyhouse/DecisionAllowedPinLaw" (31 : Nat) (2147483647 : Int32)).before a0 Z = true := hw _ (List.mem_of_getElem? (i := 0) rfl)
theorem ow1 {a0 : Array Value} {Z : State} (hw : ∀ d ∈ tables_1, d.before a0 Z = true) : (Jvm.Cond.methodLink "com/example/tallyhouse/tallyhouse/DecisionAllowedPinLaw" (32 : Nat) ({ cls := "com/example/tallyhouse/tallyhouse/DecisionAllowedPinLaw", name := "pick", desc := "(I)Lcom/example/tallyhouse/tallyhouse/GuardrailLimits$Reason;" } : Jvm.MethodName)).before a0 Z = true := hw _ (List.mem_of_getElem? (i := 1) rfl)
theorem ow2 {a0 : Array Value} {Z : State} (hw : ∀ d ∈ tables_1, d.before a0 Z = true) : (Jvm.Cond.static ({ cls := "com/example/tallyhouse/tallyhouse/DecisionAllowedPinLaw", name := "pick", desc := "(I)Lcom/example/tallyhouse/tallyhouse/GuardrailLimits$Reason;" } : Jvm.MethodName)).before a0 Z = true := hw _ (List.mem_of_getElem? (i := 2) rfl)
theorem ow3 {a0 : Array Value} {Z : State} (hw : ∀ d ∈ tables_1, d.before a0 Z = true) : (Jvm.Cond.initialized "com/example/tallyhouse/tallyhouse/DecisionAllowedPinLaw").before a0 Z = true := hw _ (List.mem_of_getElem? (i := 3) rfl)
theorem ow4 {a0 : Array Value} {Z : State} (hw : ∀ d ∈ tables_1, d.before a0 Z = true) : (Jvm.Cond.code ({ cls := "com/example/tallyhouse/tallyhouse/DecisionAllowedPinLaw", name := "pick", desc := "(I)Lcom/example/tallyhouse/tallyhouse/GuardrailLimits$Reason;" } : Jvm.MethodName) method_2_code (1 : Nat) (Option.some (Jvm.ClassFile.FieldType.object "com/example/tallyhouse/tallyhouse/GuardrailLimits$Reason"))).before a0 Z = true := hw _ (List.mem_of_getElem? (i := 4) rfl)
theorem ow5 {a0 : Array Value} {Z : State} (hw : ∀ d ∈ tables_1, d.before a0 Z = true) : (Jvm.Cond.fieldLink "com/example/tallyhouse/tallyhouse/DecisionAllowedPinLaw" (7 : Nat) "com/example/tallyhouse/tallyhouse/GuardrailLimits$Reason" "OK" "Lcom/example/tallyhouse/tallyhouse/GuardrailLimits$Reason;").before a0 Z = true := hw _ (List.mem_of_getElem? (i := 5) rfl)
theorem ow6 {a0 : Array Value} {Z : State} (hw : ∀ d ∈ tables_1, d.before a0 Z = true) : (Jvm.Cond.initialized "com/example/tallyhouse/tallyhouse/GuardrailLimits$Reason").before a0 Z = true := hw _ (List.mem_of_getElem? (i := 6) rfl)
theorem ow7 {a0 : Array Value} {Z : State} (hw : ∀ d ∈ tables_1, d.before a0 Z = true) : (Jvm.Cond.laysStatic "com/example/tallyhouse/tallyhouse/GuardrailLimits$Reason" "OK" "Lcom/example/tallyhouse/tallyhouse/GuardrailLimits$Reason;").before a0 Z = true := hw _ (List.mem_of_getElem? (i := 7) rfl)
theorem ow8 {a0 : Array Value} {Z : State} (hw : ∀ d ∈ tables_1, d.before a0 Z = true) : (Jvm.Cond.classLink "com/example/tallyhouse/tallyhouse/DecisionAllowedPinLaw" (44 : Nat) "com/example/tallyhouse/tallyhouse/GuardrailLimits$Decision").before a0 Z = true := hw _ (List.mem_of_getElem? (i := 8) rfl)
theorem ow9 {a0 : Array Value} {Z : State} (hw : ∀ d ∈ tables_1, d.before a0 Z = true) : (Jvm.Cond.instantiable "com/example/tallyhouse/tallyhouse/GuardrailLimits$Decision" (3 : Nat)).before a0 Z = true := hw _ (List.mem_of_getElem? (i := 9) rfl)
theorem ow10 {a0 : Array Value} {Z : State} (hw : ∀ d ∈ tables_1, d.before a0 Z = true) : (Jvm.Cond.initialized "com/example/tallyhouse/tallyhouse/GuardrailLimits$Decision").before a0 Z = true := hw _ (List.mem_of_getElem? (i := 10) rfl)
theorem ow11 {a0 : Array Value} {Z : State} (hw : ∀ d ∈ tables_1, d.before a0 Z = true) : (Jvm.Cond.methodLink "com/example/tallyhouse/tallyhouse/DecisionAllowedPinLaw" (46 : Nat) ({ cls := "com/example/tallyhouse/tallyhouse/GuardrailLimits$Decision", name := "<init>", desc := "(Lcom/example/tallyhouse/tallyhouse/GuardrailLimits$Reason;JLjava/lang/Long;)V" } : Jvm.MethodName)).before a0 Z = true := hw _ (List.mem_of_getElem? (i := 11) rfl)
theorem ow12 {a0 : Array Value} {Z : State} (hw : ∀ d ∈ tables_1, d.before a0 Z = true) : (Jvm.Cond.instanceMethod ({ cls := "com/example/tallyhouse/tallyhouse/GuardrailLimits$Decision", name := "<init>", desc := "(Lcom/example/tallyhouse/tallyhouse/GuardrailLimits$Reason;JLjava/lang/Long;)V" } : Jvm.MethodName)).before a0 Z = true := hw _ (List.mem_of_getElem? (i := 12) rfl)
theorem ow13 {a0 : Array Value} {Z : State} (hw : ∀ d ∈ tables_1, d.before a0 Z = true) : (Jvm.Cond.code ({ cls := "com/example/tallyhouse/tallyhouse/GuardrailLimits$Decision", name := "<init>", desc := "(Lcom/example/tallyhouse/tallyhouse/GuardrailLimits$Reason;JLjava/lang/Long;)V" } : Jvm.MethodName) prog_8_method_1_code (5 : Nat) (Option.none : Option Jvm.ClassFile.FieldType)).before a0 Z = true := hw _ (List.mem_of_getElem? (i := 13) rfl)
theorem ow14 {a0 : Array Value} {Z : State} (hw : ∀ d ∈ tables_1, d.before a0 Z = true) : (Jvm.Cond.methodLink "com/example/tallyhouse/tallyhouse/GuardrailLimits$Decision" (1 : Nat) ({ cls := "java/lang/Record", name := "<init>", desc := "()V" } : Jvm.MethodName)).before a0 Z = true := hw _ (List.mem_of_getElem? (i := 14) rfl)
theorem ow15 {a0 : Array Value} {Z : State} (hw : ∀ d ∈ tables_1, d.before a0 Z = true) : (Jvm.Cond.instanceMethod ({ cls := "java/lang/Record", name := "<init>", desc := "()V" } : Jvm.MethodName)).before a0 Z = true := hw _ (List.mem_of_getElem? (i := 15) rfl)
theorem ow17 {a0 : Array Value} {Z : State} (hw : ∀ d ∈ tables_1, d.before a0 Z = true) : (Jvm.Cond.initialized "java/lang/Record").before a0 Z = true := hw _ (List.mem_of_getElem? (i := 17) rfl)
theorem ow18 {a0 : Array Value} {Z : State} (hw : ∀ d ∈ tables_1, d.before a0 Z = true) : (Jvm.Cond.code ({ cls := "java/lang/Record", name := "<init>", desc := "()V" } : Jvm.MethodName) jdk_30_method_1_code (1 : Nat) (Option.none : Option Jvm.ClassFile.FieldType)).before a0 Z = true := hw _ (List.mem_of_getElem? (i := 18) rfl)
theorem ow19 {a0 : Array Value} {Z : State} (hw : ∀ d ∈ tables_1, d.before a0 Z = true) : (Jvm.Cond.methodLink "java/lang/Record" (1 : Nat) ({ cls := "java/lang/Object", name := "<init>", desc := "()V" } : Jvm.MethodName)).before a0 Z = true := hw _ (List.mem_of_getElem? (i := 19) rfl)
theorem ow20 {a0 : Array Value} {Z : State} (hw : ∀ d ∈ tables_1, d.before a0 Z = true) : (Jvm.Cond.instanceMethod ({ cls := "java/lang/Object", name := "<init>", desc := "()V" } : Jvm.MethodName)).before a0 Z = true := hw _ (List.mem_of_getElem? (i := 20) rfl)
theorem ow21 {a0 : Array Value} {Z : State} (hw : ∀ d ∈ tables_1, d.before a0 Z = true) : (Jvm.Cond.code ({ cls := "java/lang/Object", name := "<init>", desc := "()V" } : Jvm.MethodName) object_method_1_code (1 : Nat) (Option.none : Option Jvm.ClassFile.FieldType)).before a0 Z = true := hw _ (List.mem_of_getElem? (i := 21) rfl)
theorem ow22 {a0 : Array Value} {Z : State} (hw : ∀ d ∈ tables_1, d.before a0 Z = true) : (Jvm.Cond.fieldLink "com/example/tallyhouse/tallyhouse/GuardrailLimits$Decision" (7 : Nat) "com/example/tallyhouse/tallyhouse/GuardrailLimits$Decision" "reason" "Lcom/example/tallyhouse/tallyhouse/GuardrailLimits$Reason;").before a0 Z = true := hw _ (List.mem_of_getElem? (i := 22) rfl)
theorem ow23 {a0 : Array Value} {Z : State} (hw : ∀ d ∈ tables_1, d.before a0 Z = true) : (Jvm.Cond.laysFinal "com/example/tallyhouse/tallyhouse/GuardrailLimits$Decision" "com/example/tallyhouse/tallyhouse/GuardrailLimits$Decision" "reason" "Lcom/example/tallyhouse/tallyhouse/GuardrailLimits$Reason;").before a0 Z = true := hw _ (List.mem_of_getElem? (i := 23) rfl)
theorem ow24 {a0 : Array Value} {Z : State} (hw : ∀ d ∈ tables_1, d.before a0 Z = true) : (Jvm.Cond.fieldLink "com/example/tallyhouse/tallyhouse/GuardrailLimits$Decision" (13 : Nat) "com/example/tallyhouse/tallyhouse/GuardrailLimits$Decision" "used" "J").before a0 Z = true := hw _ (List.mem_of_getElem? (i := 24) rfl)
theorem ow25 {a0 : Array Value} {Z : State} (hw : ∀ d ∈ tables_1, d.before a0 Z = true) : (Jvm.Cond.laysFinal "com/example/tallyhouse/tallyhouse/GuardrailLimits$Decision" "com/example/tallyhouse/tallyhouse/GuardrailLimits$Decision" "used" "J").before a0 Z = true := hw _ (List.mem_of_getElem? (i := 25) rfl)
theorem ow26 {a0 : Array Value} {Z : State} (hw : ∀ d ∈ tables_1, d.before a0 Z = true) : (Jvm.Cond.fieldLink "com/example/tallyhouse/tallyhouse/GuardrailLimits$Decision" (17 : Nat) "com/example/tallyhouse/tallyhouse/GuardrailLimits$Decision" "limit" "Ljava/lang/Long;").before a0 Z = true := hw _ (List.mem_of_getElem? (i := 26) rfl)
theorem ow27 {a0 : Array Value} {Z : State} (hw : ∀ d ∈ tables_1, d.before a0 Z = true) : (Jvm.Cond.laysFinal "com/example/tallyhouse/tallyhouse/GuardrailLimits$Decision" "com/example/tallyhouse/tallyhouse/GuardrailLimits$Decision" "limit" "Ljava/lang/Long;").before a0 Z = true := hw _ (List.mem_of_getElem? (i := 27) rfl)
theorem ow28 {a0 : Array Value} {Z : State} (hw : ∀ d ∈ tables_1, d.before a0 Z = true) : (Jvm.Cond.methodLink "com/example/tallyhouse/tallyhouse/DecisionAllowedPinLaw" (49 : Nat) ({ cls := "com/example/tallyhouse/tallyhouse/GuardrailLimits$Decision", name := "allowed", desc := "()Z" } : Jvm.MethodName)).before a0 Z = true := hw _ (List.mem_of_getElem? (i := 28) rfl)
theorem ow29 {a0 : Array Value} {Z : State} (hw : ∀ d ∈ tables_1, d.before a0 Z = true) : (Jvm.Cond.declares ({ cls := "com/example/tallyhouse/tallyhouse/GuardrailLimits$Decision", name := "allowed", desc := "()Z" } : Jvm.MethodName)).before a0 Z = true := hw _ (List.mem_of_getElem? (i := 29) rfl)
theorem ow30 {a0 : Array Value} {Z : State} (hw : ∀ d ∈ tables_1, d.before a0 Z = true) : (Jvm.Cond.instanceMethod ({ cls := "com/example/tallyhouse/tallyhouse/GuardrailLimits$Decision", name := "allowed", desc := "()Z" } : Jvm.MethodName)).before a0 Z = true := hw _ (List.mem_of_getElem? (i := 30) rfl)
theorem ow31 {a0 : Array Value} {Z : State} (hw : ∀ d ∈ tables_1, d.before a0 Z = true) : (Jvm.Cond.selects "com/example/tallyhouse/tallyhouse/GuardrailLimits$Decision" ({ cls := "com/example/tallyhouse/tallyhouse/GuardrailLimits$Decision", name := "allowed", desc := "()Z" } : Jvm.MethodName) ({ cls := "com/example/tallyhouse/tallyhouse/GuardrailLimits$Decision", name := "allowed", desc := "()Z" } : Jvm.MethodName)).before a0 Z = true := hw _ (List.mem_of_getElem? (i := 31) rfl)
theorem ow32 {a0 : Array Value} {Z : State} (hw : ∀ d ∈ tables_1, d.before a0 Z = true) : (Jvm.Cond.code ({ cls := "com/example/tallyhouse/tallyhouse/GuardrailLimits$Decision", name := "allowed", desc := "()Z" } : Jvm.MethodName) prog_8_method_2_code (1 : Nat) (Option.some Jvm.ClassFile.FieldType.boolean)).before a0 Z = true := hw _ (List.mem_of_getElem? (i := 32) rfl)
theorem ow33 {a0 : Array Value} {Z : State} (hw : ∀ d ∈ tables_1, d.before a0 Z = true) : (Jvm.Cond.fieldLink "com/example/tallyhouse/tallyhouse/GuardrailLimits$Decision" (21 : Nat) "com/example/tallyhouse/tallyhouse/GuardrailLimits$Reason" "OK" "Lcom/example/tallyhouse/tallyhouse/GuardrailLimits$Reason;").before a0 Z = true := hw _ (List.mem_of_getElem? (i := 33) rfl)
theorem ow34 {a0 : Array Value} {Z : State} (hw : ∀ d ∈ tables_1, d.before a0 Z = true) : (Jvm.Cond.fieldLink "com/example/tallyhouse/tallyhouse/DecisionAllowedPinLaw" (19 : Nat) "com/example/tallyhouse/tallyhouse/GuardrailLimits$Reason" "DAILY_PAYMENT_LIMIT" "Lcom/example/tallyhouse/tallyhouse/GuardrailLimits$Reason;").before a0 Z = true := hw _ (List.mem_of_getElem? (i := 34) rfl)
theorem ow35 {a0 : Array Value} {Z : State} (hw : ∀ d ∈ tables_1, d.before a0 Z = true) : (Jvm.Cond.laysStatic "com/example/tallyhouse/tallyhouse/GuardrailLimits$Reason" "DAILY_PAYMENT_LIMIT" "Lcom/example/tallyhouse/tallyhouse/GuardrailLimits$Reason;").before a0 Z = true := hw _ (List.mem_of_getElem? (i := 35) rfl)
theorem ow36 {a0 : Array Value} {Z : State} (hw : ∀ d ∈ tables_1, d.before a0 Z = true) : (Jvm.Cond.methodLink "com/example/tallyhouse/tallyhouse/DecisionAllowedPinLaw" (38 : Nat) ({ cls := "java/lang/Long", name := "valueOf", desc := "(J)Ljava/lang/Long;" } : Jvm.MethodName)).before a0 Z = true := hw _ (List.mem_of_getElem? (i := 36) rfl)
theorem ow37 {a0 : Array Value} {Z : State} (hw : ∀ d ∈ tables_1, d.before a0 Z = true) : (Jvm.Cond.static ({ cls := "java/lang/Long", name := "valueOf", desc := "(J)Ljava/lang/Long;" } : Jvm.MethodName)).before a0 Z = true := hw _ (List.mem_of_getElem? (i := 37) rfl)
theorem ow38 {a0 : Array Value} {Z : State} (hw : ∀ d ∈ tables_1, d.before a0 Z = true) : (Jvm.Cond.initialized "java/lang/Long").before a0 Z = true := hw _ (List.mem_of_getElem? (i := 38) rfl)
theorem ow39 {a0 : Array Value} {Z : State} (hw : ∀ d ∈ tables_1, d.before a0 Z = true) : (Jvm.Cond.code ({ cls := "java/lang/Long", name := "valueOf", desc := "(J)Ljava/lang/Long;" } : Jvm.MethodName) jdk_35_method_24_code (3 : Nat) (Option.some (Jvm.ClassFile.FieldType.object "java/lang/Long"))).before a0 Z = true := hw _ (List.mem_of_getElem? (i := 39) rfl)
theorem ow40 {a0 : Array Value} {Z : State} (hw : ∀ d ∈ tables_1, d.before a0 Z = true) : (Jvm.Cond.constantLong "java/lang/Long" (230 : Nat) (-128 : Int64)).before a0 Z = true := hw _ (List.mem_of_getElem? (i := 40) rfl)
theorem ow41 {a0 : Array Value} {Z : State} (hw : ∀ d ∈ tables_1, d.before a0 Z = true) : (Jvm.Cond.constantLong "java/lang/Long" (232 : Nat) (127 : Int64)).before a0 Z = true := hw _ (List.mem_of_getElem? (i := 41) rfl)
theorem ow42 {a0 : Array Value} {Z : State} (hw : ∀ d ∈ tables_1, d.before a0 Z = true) : (Jvm.Cond.classLink "java/lang/Long" (1 : Nat) "java/lang/Long").before a0 Z = true := hw _ (List.mem_of_getElem? (i := 42) rfl)
theorem ow43 {a0 : Array Value} {Z : State} (hw : ∀ d ∈ tables_1, d.before a0 Z = true) : (Jvm.Cond.instantiable "java/lang/Long" (1 : Nat)).before a0 Z = true := hw _ (List.mem_of_getElem? (i := 43) rfl)
theorem ow44 {a0 : Array Value} {Z : State} (hw : ∀ d ∈ tables_1, d.before a0 Z = true) : (Jvm.Cond.methodLink "java/lang/Long" (240 : Nat) ({ cls := "java/lang/Long", name := "<init>", desc := "(J)V" } : Jvm.MethodName)).before a0 Z = true := hw _ (List.mem_of_getElem? (i := 44) rfl)
theorem ow45 {a0 : Array Value} {Z : State} (hw : ∀ d ∈ tables_1, d.before a0 Z = true) : (Jvm.Cond.instanceMethod ({ cls := "java/lang/Long", name := "<init>", desc := "(J)V" } : Jvm.MethodName)).before a0 Z = true := hw _ (List.mem_of_getElem? (i := 45) rfl)
theorem ow47 {a0 : Array Value} {Z : State} (hw : ∀ d ∈ tables_1, d.before a0 Z = true) : (Jvm.Cond.code ({ cls := "java/lang/Long", name := "<init>", desc := "(J)V" } : Jvm.MethodName) jdk_35_method_26_code (3 : Nat) (Option.none : Option Jvm.ClassFile.FieldType)).before a0 Z = true := hw _ (List.mem_of_getElem? (i := 47) rfl)
theorem ow48 {a0 : Array Value} {Z : State} (hw : ∀ d ∈ tables_1, d.before a0 Z = true) : (Jvm.Cond.methodLink "java/lang/Long" (270 : Nat) ({ cls := "java/lang/Number", name := "<init>", desc := "()V" } : Jvm.MethodName)).before a0 Z = true := hw _ (List.mem_of_getElem? (i := 48) rfl)
theorem ow49 {a0 : Array Value} {Z : State} (hw : ∀ d ∈ tables_1, d.before a0 Z = true) : (Jvm.Cond.instanceMethod ({ cls := "java/lang/Number", name := "<init>", desc := "()V" } : Jvm.MethodName)).before a0 Z = true := hw _ (List.mem_of_getElem? (i := 49) rfl)
theorem ow52 {a0 : Array Value} {Z : State} (hw : ∀ d ∈ tables_1, d.before a0 Z = true) : (Jvm.Cond.initialized "java/lang/Number").before a0 Z = true := hw _ (List.mem_of_getElem? (i := 52) rfl)
theorem ow53 {a0 : Array Value} {Z : State} (hw : ∀ d ∈ tables_1, d.before a0 Z = true) : (Jvm.Cond.code ({ cls := "java/lang/Number", name := "<init>", desc := "()V" } : Jvm.MethodName) jdk_18_method_1_code (1 : Nat) (Option.none : Option Jvm.ClassFile.FieldType)).before a0 Z = true := hw _ (List.mem_of_getElem? (i := 53) rfl)
theorem ow54 {a0 : Array Value} {Z : State} (hw : ∀ d ∈ tables_1, d.before a0 Z = true) : (Jvm.Cond.methodLink "java/lang/Number" (1 : Nat) ({ cls := "java/lang/Object", name := "<init>", desc := "()V" } : Jvm.MethodName)).before a0 Z = true := hw _ (List.mem_of_getElem? (i := 54) rfl)
theorem ow55 {a0 : Array Value} {Z : State} (hw : ∀ d ∈ tables_1, d.before a0 Z = true) : (Jvm.Cond.fieldLink "java/lang/Long" (273 : Nat) "java/lang/Long" "value" "J").before a0 Z = true := hw _ (List.mem_of_getElem? (i := 55) rfl)
theorem ow56 {a0 : Array Value} {Z : State} (hw : ∀ d ∈ tables_1, d.before a0 Z = true) : (Jvm.Cond.laysFinal "java/lang/Long" "java/lang/Long" "value" "J").before a0 Z = true := hw _ (List.mem_of_getElem? (i := 56) rfl)
theorem ow57 {a0 : Array Value} {Z : State} (hw : ∀ d ∈ tables_1, d.before a0 Z = true) : (Jvm.Cond.fieldLink "com/example/tallyhouse/tallyhouse/DecisionAllowedPinLaw" (28 : Nat) "com/example/tallyhouse/tallyhouse/GuardrailLimits$Reason" "DAILY_PLAY_LIMIT" "Lcom/example/tallyhouse/tallyhouse/GuardrailLimits$Reason;").before a0 Z = true := hw _ (List.mem_of_getElem? (i := 57) rfl)
theorem ow58 {a0 : Array Value} {Z : State} (hw : ∀ d ∈ tables_1, d.before a0 Z = true) : (Jvm.Cond.laysStatic "com/example/tallyhouse/tallyhouse/GuardrailLimits$Reason" "DAILY_PLAY_LIMIT" "Lcom/example/tallyhouse/tallyhouse/GuardrailLimits$Reason;").before a0 Z = true := hw _ (List.mem_of_getElem? (i := 58) rfl)
theorem ow59 {a0 : Array Value} {Z : State} (hw : ∀ d ∈ tables_1, d.before a0 Z = true) : (Jvm.Cond.fieldLink "com/example/tallyhouse/tallyhouse/DecisionAllowedPinLaw" (13 : Nat) "com/example/tallyhouse/tallyhouse/GuardrailLimits$Reason" "PAYMENT_NOT_ALLOWED" "Lcom/example/tallyhouse/tallyhouse/GuardrailLimits$Reason;").before a0 Z = true := hw _ (List.mem_of_getElem? (i := 59) rfl)
theorem ow60 {a0 : Array Value} {Z : State} (hw : ∀ d ∈ tables_1, d.before a0 Z = true) : (Jvm.Cond.laysStatic "com/example/tallyhouse/tallyhouse/GuardrailLimits$Reason" "PAYMENT_NOT_ALLOWED" "Lcom/example/tallyhouse/tallyhouse/GuardrailLimits$Reason;").before a0 Z = true := hw _ (List.mem_of_getElem? (i := 60) rfl)
theorem ow61 {a0 : Array Value} {Z : State} (hw : ∀ d ∈ tables_1, d.before a0 Z = true) : (Jvm.Cond.fieldLink "com/example/tallyhouse/tallyhouse/DecisionAllowedPinLaw" (16 : Nat) "com/example/tallyhouse/tallyhouse/GuardrailLimits$Reason" "SINGLE_PAYMENT_LIMIT" "Lcom/example/tallyhouse/tallyhouse/GuardrailLimits$Reason;").before a0 Z = true := hw _ (List.mem_of_getElem? (i := 61) rfl)
theorem ow62 {a0 : Array Value} {Z : State} (hw : ∀ d ∈ tables_1, d.before a0 Z = true) : (Jvm.Cond.laysStatic "com/example/tallyhouse/tallyhouse/GuardrailLimits$Reason" "SINGLE_PAYMENT_LIMIT" "Lcom/example/tallyhouse/tallyhouse/GuardrailLimits$Reason;").before a0 Z = true := hw _ (List.mem_of_getElem? (i := 62) rfl)
theorem ow63 {a0 : Array Value} {Z : State} (hw : ∀ d ∈ tables_1, d.before a0 Z = true) : (Jvm.Cond.fieldLink "com/example/tallyhouse/tallyhouse/DecisionAllowedPinLaw" (22 : Nat) "com/example/tallyhouse/tallyhouse/GuardrailLimits$Reason" "MONTHLY_PAYMENT_LIMIT" "Lcom/example/tallyhouse/tallyhouse/GuardrailLimits$Reason;").before a0 Z = true := hw _ (List.mem_of_getElem? (i := 63) rfl)
theorem ow64 {a0 : Array Value} {Z : State} (hw : ∀ d ∈ tables_1, d.before a0 Z = true) : (Jvm.Cond.laysStatic "com/example/tallyhouse/tallyhouse/GuardrailLimits$Reason" "MONTHLY_PAYMENT_LIMIT" "Lcom/example/tallyhouse/tallyhouse/GuardrailLimits$Reason;").before a0 Z = true := hw _ (List.mem_of_getElem? (i := 64) rfl)
theorem ow65 {a0 : Array Value} {Z : State} (hw : ∀ d ∈ tables_1, d.before a0 Z = true) : (Jvm.Cond.fieldLink "java/lang/Long" (234 : Nat) "java/lang/Long$LongCache" "cache" "[Ljava/lang/Long;").before a0 Z = true := hw _ (List.mem_of_getElem? (i := 65) rfl)
theorem ow67 {a0 : Array Value} {Z : State} (hw : ∀ d ∈ tables_1, d.before a0 Z = true) : (Jvm.Cond.fieldLink "com/example/tallyhouse/tallyhouse/DecisionAllowedPinLaw" (25 : Nat) "com/example/tallyhouse/tallyhouse/GuardrailLimits$Reason" "CURFEW" "Lcom/example/tallyhouse/tallyhouse/GuardrailLimits$Reason;").before a0 Z = true := hw _ (List.mem_of_getElem? (i := 67) rfl)
theorem ow68 {a0 : Array Value} {Z : State} (hw : ∀ d ∈ tables_1, d.before a0 Z = true) : (Jvm.Cond.laysStatic "com/example/tallyhouse/tallyhouse/GuardrailLimits$Reason" "CURFEW" "Lcom/example/tallyhouse/tallyhouse/GuardrailLimits$Reason;").before a0 Z = true := hw _ (List.mem_of_getElem? (i := 68) rfl)
theorem pd0 : parseMethodDescriptor "()V" = some ⟨[], none⟩ := by decide +kernel
theorem pd1 : parseMethodDescriptor "(J)V" = some ⟨[.long], none⟩ := by decide +kernel
theorem pd2 : parseMethodDescriptor "(I)Lcom/example/tallyhouse/tallyhouse/GuardrailLimits$Reason;" = some ⟨[.int], some (.object "com/example/tallyhouse/tallyhouse/GuardrailLimits$Reason")⟩ := by decide +kernel
theorem pd3 : parseMethodDescriptor "(Lcom/example/tallyhouse/tallyhouse/GuardrailLimits$Reason;JLjava/lang/Long;)V" = some ⟨[(.object "com/example/tallyhouse/tallyhouse/GuardrailLimits$Reason"), .long, (.object "java/lang/Long")], none⟩ := by decide +kernel
theorem pd4 : parseMethodDescriptor "()Z" = some ⟨[], some .boolean⟩ := by decide +kernel
theorem pd5 : parseMethodDescriptor "(J)Ljava/lang/Long;" = some ⟨[.long], some (.object "java/lang/Long")⟩ := by decide +kernel
theorem pn0 : plainName "com/example/tallyhouse/tallyhouse/DecisionAllowedPinLaw" = true := by first | (simp [plainName, overriddenIn]; done) | decide +kernel
theorem pn1 : plainName "java/lang/Record" = true := by first | (simp [plainName, overriddenIn]; done) | decide +kernel
theorem pn2 : plainName "java/lang/Number" = true := by first | (simp [plainName, overriddenIn]; done) | decide +kernel
theorem pn3 : plainName "java/lang/Long" = true := by first | (simp [plainName, overriddenIn]; done) | decide +kernel
theorem pn4 : plainName "com/example/tallyhouse/tallyhouse/GuardrailLimits$Decision" = true := by first | (simp [plainName, overriddenIn]; done) | decide +kernel
def pk {α : Type} (k : Int32) (w0 w1 w2 w3 w4 w5 w6 : α) : α := if k = 0 then w0 else if k = 1 then w1 else if k = 2 then w2 else if k = 3 then w3 else if k = 4 then w4 else if k = 5 then w5 else w6
theorem own_pkE {Z : State} {C : String} (k : Int32) {w0 w1 w2 w3 w4 w5 w6 : Addr} (E0 : Exa Z Z.heap w0 C) (E1 : Exa Z Z.heap w1 C) (E2 : Exa Z Z.heap w2 C) (E3 : Exa Z Z.heap w3 C) (E4 : Exa Z Z.heap w4 C) (E5 : Exa Z Z.heap w5 C) (E6 : Exa Z Z.heap w6 C) : Exa Z Z.heap (pk k w0 w1 w2 w3 w4 w5 w6) C := by
  unfold pk
  split; · exact E0
  split; · exact E1
  split; · exact E2
  split; · exact E3
  split; · exact E4
  split; · exact E5
  exact E6
theorem own_pkF {Z : State} {C n d : String} (k : Int32) {w0 w1 w2 w3 w4 w5 w6 : Addr} {v0 v1 v2 v3 v4 v5 v6 : Value} (E0 : Fld Z Z.heap w0 C n d v0) (E1 : Fld Z Z.heap w1 C n d v1) (E2 : Fld Z Z.heap w2 C n d v2) (E3 : Fld Z Z.heap w3 C n d v3) (E4 : Fld Z Z.heap w4 C n d v4) (E5 : Fld Z Z.heap w5 C n d v5) (E6 : Fld Z Z.heap w6 C n d v6) : Fld Z Z.heap (pk k w0 w1 w2 w3 w4 w5 w6) C n d (pk k v0 v1 v2 v3 v4 v5 v6) := by
  unfold pk
  split; · exact E0
  split; · exact E1
  split; · exact E2
  split; · exact E3
  split; · exact E4
  split; · exact E5
  exact E6
theorem own_pkr (k : Int32) (w0 w1 w2 w3 w4 w5 w6 : Addr) : pk k (Value.ref w0) (Value.ref w1) (Value.ref w2) (Value.ref w3) (Value.ref w4) (Value.ref w5) (Value.ref w6) = .ref (pk k w0 w1 w2 w3 w4 w5 w6) := by
  unfold pk
  repeat' split
  all_goals rfl
theorem own_mod7 {x i : Int32} (h : i = (x &&& (2147483647 : Int32)) % (7 : Int32)) : i = 0 ∨ i = 1 ∨ i = 2 ∨ i = 3 ∨ i = 4 ∨ i = 5 ∨ i = 6 := by
  have h1 := c_mask x 2147483647 31 (by decide) (by decide)
  have h2 := (c_irem (x &&& 2147483647) 7 7 rfl).1 (by omega)
  rw [← h] at h2
  have h3 : i.toInt = 0 ∨ i.toInt = 1 ∨ i.toInt = 2 ∨ i.toInt = 3 ∨ i.toInt = 4 ∨ i.toInt = 5 ∨ i.toInt = 6 := by omega
  rcases h3 with h | h | h | h | h | h | h
  · exact Or.inl (Int32.toInt_inj.mp h)
  · exact Or.inr (Or.inl (Int32.toInt_inj.mp h))
  · exact Or.inr (Or.inr (Or.inl (Int32.toInt_inj.mp h)))
  · exact Or.inr (Or.inr (Or.inr (Or.inl (Int32.toInt_inj.mp h))))
  · exact Or.inr (Or.inr (Or.inr (Or.inr (Or.inl (Int32.toInt_inj.mp h)))))
  · exact Or.inr (Or.inr (Or.inr (Or.inr (Or.inr (Or.inl (Int32.toInt_inj.mp h))))))
  · exact Or.inr (Or.inr (Or.inr (Or.inr (Or.inr (Or.inr (Int32.toInt_inj.mp h))))))
theorem d_method_2_code_0 : decode method_2_code 0 = .ok (.iload_n 0, 1) := by decide +kernel
theorem d_method_2_code_1 : decode method_2_code 1 = .ok (.ifCond .ne 7, 3) := by decide +kernel
theorem d_method_2_code_4 : decode method_2_code 4 = .ok (.getstatic 7, 3) := by decide +kernel
theorem d_method_2_code_7 : decode method_2_code 7 = .ok (.areturn, 1) := by decide +kernel
theorem d_method_2_code_8 : decode method_2_code 8 = .ok (.iload_n 0, 1) := by decide +kernel
theorem d_method_2_code_9 : decode method_2_code 9 = .ok (.iconst 1, 1) := by decide +kernel
theorem d_method_2_code_10 : decode method_2_code 10 = .ok (.if_icmp .ne 7, 3) := by decide +kernel
theorem d_method_2_code_13 : decode method_2_code 13 = .ok (.getstatic 13, 3) := by decide +kernel
theorem d_method_2_code_16 : decode method_2_code 16 = .ok (.areturn, 1) := by decide +kernel
theorem d_method_2_code_17 : decode method_2_code 17 = .ok (.iload_n 0, 1) := by decide +kernel
theorem d_method_2_code_18 : decode method_2_code 18 = .ok (.iconst 2, 1) := by decide +kernel
theorem d_method_2_code_19 : decode method_2_code 19 = .ok (.if_icmp .ne 7, 3) := by decide +kernel
theorem d_method_2_code_22 : decode method_2_code 22 = .ok (.getstatic 16, 3) := by decide +kernel
theorem d_method_2_code_25 : decode method_2_code 25 = .ok (.areturn, 1) := by decide +kernel
theorem d_method_2_code_26 : decode method_2_code 26 = .ok (.iload_n 0, 1) := by decide +kernel
theorem d_method_2_code_27 : decode method_2_code 27 = .ok (.iconst 3, 1) := by decide +kernel
theorem d_method_2_code_28 : decode method_2_code 28 = .ok (.if_icmp .ne 7, 3) := by decide +kernel
theorem d_method_2_code_31 : decode method_2_code 31 = .ok (.getstatic 19, 3) := by decide +kernel
theorem d_method_2_code_34 : decode method_2_code 34 = .ok (.areturn, 1) := by decide +kernel
theorem d_method_2_code_35 : decode method_2_code 35 = .ok (.iload_n 0, 1) := by decide +kernel
theorem d_method_2_code_36 : decode method_2_code 36 = .ok (.iconst 4, 1) := by decide +kernel
theorem d_method_2_code_37 : decode method_2_code 37 = .ok (.if_icmp .ne 7, 3) := by decide +kernel
theorem d_method_2_code_40 : decode method_2_code 40 = .ok (.getstatic 22, 3) := by decide +kernel
theorem d_method_2_code_43 : decode method_2_code 43 = .ok (.areturn, 1) := by decide +kernel
theorem d_method_2_code_44 : decode method_2_code 44 = .ok (.iload_n 0, 1) := by decide +kernel
theorem d_method_2_code_45 : decode method_2_code 45 = .ok (.iconst 5, 1) := by decide +kernel
theorem d_method_2_code_46 : decode method_2_code 46 = .ok (.if_icmp .ne 7, 3) := by decide +kernel
theorem d_method_2_code_49 : decode method_2_code 49 = .ok (.getstatic 25, 3) := by decide +kernel
theorem d_method_2_code_52 : decode method_2_code 52 = .ok (.areturn, 1) := by decide +kernel
theorem d_method_2_code_53 : decode method_2_code 53 = .ok (.getstatic 28, 3) := by decide +kernel
theorem d_method_2_code_56 : decode method_2_code 56 = .ok (.areturn, 1) := by decide +kernel
def Q_rmpick (Z : State) (k : Int32) (w_OK : Addr) (w_PAYMENT_NOT_ALLOWED : Addr) (w_SINGLE_PAYMENT_LIMIT : Addr) (w_DAILY_PAYMENT_LIMIT : Addr) (w_MONTHLY_PAYMENT_LIMIT : Addr) (w_CURFEW : Addr) (w_DAILY_PLAY_LIMIT : Addr) (h0 : Heap) (n0 : Nat) (v : Option Value) (h : Heap) (L : List Loc) : Prop := v = some (.ref (pk k w_OK w_PAYMENT_NOT_ALLOWED w_SINGLE_PAYMENT_LIMIT w_DAILY_PAYMENT_LIMIT w_MONTHLY_PAYMENT_LIMIT w_CURFEW w_DAILY_PLAY_LIMIT)) ∧ Fr n0 L ∧ h = h0
theorem ef_rmpick (m : MethodId) (k : Int32) : entryFrame m #[(.int k)] 1 = mkF m 0 #[.val (.int k)] [] := by first | (simp [entryFrame, mkF, argsToLocals, Value.category]; done) | rfl
set_option maxRecDepth 65536 in
set_option maxHeartbeats 40000000 in
theorem rmpick (l : Launch) (Z : State) (a0 : Array Value) (hw : ∀ d ∈ tables_1, d.before a0 Z = true) (ws : List Jvm.Cond) (k : Int32) (w_OK : Addr) (w_PAYMENT_NOT_ALLOWED : Addr) (w_SINGLE_PAYMENT_LIMIT : Addr) (w_DAILY_PAYMENT_LIMIT : Addr) (w_MONTHLY_PAYMENT_LIMIT : Addr) (w_CURFEW : Addr) (w_DAILY_PLAY_LIMIT : Addr) (h0 : Heap) (n0 : Nat) (O0 : Old Z n0 h0) (S_OK : Sta Z Z.heap "com/example/tallyhouse/tallyhouse/GuardrailLimits$Reason" "OK" "Lcom/example/tallyhouse/tallyhouse/GuardrailLimits$Reason;" (.ref w_OK)) (S_PAYMENT_NOT_ALLOWED : Sta Z Z.heap "com/example/tallyhouse/tallyhouse/GuardrailLimits$Reason" "PAYMENT_NOT_ALLOWED" "Lcom/example/tallyhouse/tallyhouse/GuardrailLimits$Reason;" (.ref w_PAYMENT_NOT_ALLOWED)) (S_SINGLE_PAYMENT_LIMIT : Sta Z Z.heap "com/example/tallyhouse/tallyhouse/GuardrailLimits$Reason" "SINGLE_PAYMENT_LIMIT" "Lcom/example/tallyhouse/tallyhouse/GuardrailLimits$Reason;" (.ref w_SINGLE_PAYMENT_LIMIT)) (S_DAILY_PAYMENT_LIMIT : Sta Z Z.heap "com/example/tallyhouse/tallyhouse/GuardrailLimits$Reason" "DAILY_PAYMENT_LIMIT" "Lcom/example/tallyhouse/tallyhouse/GuardrailLimits$Reason;" (.ref w_DAILY_PAYMENT_LIMIT)) (S_MONTHLY_PAYMENT_LIMIT : Sta Z Z.heap "com/example/tallyhouse/tallyhouse/GuardrailLimits$Reason" "MONTHLY_PAYMENT_LIMIT" "Lcom/example/tallyhouse/tallyhouse/GuardrailLimits$Reason;" (.ref w_MONTHLY_PAYMENT_LIMIT)) (S_CURFEW : Sta Z Z.heap "com/example/tallyhouse/tallyhouse/GuardrailLimits$Reason" "CURFEW" "Lcom/example/tallyhouse/tallyhouse/GuardrailLimits$Reason;" (.ref w_CURFEW)) (S_DAILY_PLAY_LIMIT : Sta Z Z.heap "com/example/tallyhouse/tallyhouse/GuardrailLimits$Reason" "DAILY_PLAY_LIMIT" "Lcom/example/tallyhouse/tallyhouse/GuardrailLimits$Reason;" (.ref w_DAILY_PLAY_LIMIT)) :
    MetFree l (⟨"com/example/tallyhouse/tallyhouse/DecisionAllowedPinLaw", "pick", "(I)Lcom/example/tallyhouse/tallyhouse/GuardrailLimits$Reason;"⟩ : MethodName) (head1 (Jvm.Cond.code (⟨"com/example/tallyhouse/tallyhouse/DecisionAllowedPinLaw", "pick", "(I)Lcom/example/tallyhouse/tallyhouse/GuardrailLimits$Reason;"⟩ : MethodName) method_2_code 1 (some (.object "com/example/tallyhouse/tallyhouse/GuardrailLimits$Reason")) :: ws) ({ frames := 0, cells := 0, slots := 0, locals := 0 } : Room)) (fun aa U => aa = #[(.int k)] ∧ Z.Warmed39 U.vm ∧ U.heap = h0) (fun _ _ _ _ _ => True) (fun _ U o U' => ∃ v L, o = .returned v ∧ Q_rmpick Z k w_OK w_PAYMENT_NOT_ALLOWED w_SINGLE_PAYMENT_LIMIT w_DAILY_PAYMENT_LIMIT w_MONTHLY_PAYMENT_LIMIT w_CURFEW w_DAILY_PLAY_LIMIT h0 n0 v U'.heap L ∧ FrameEnd U o U' L ({ frames := 0, cells := 0, slots := 0, locals := 0 } : Room).cells ({ frames := 0, cells := 0, slots := 0, locals := 0 } : Room).slots) := by
  refine MetFree.of_bodySF (plainFor_of_name pn0) hisR ?_
  intro p e s m args below meth c s₁ Bd hml0 hP hK
  obtain ⟨rfl, hZ, hh⟩ := hP
  have hx := Bd.exec
  have hby := Bd.bytes
  have hml : c.maxLocals = 1 := hml0
  have hown : s.vm.findClass "com/example/tallyhouse/tallyhouse/DecisionAllowedPinLaw" = some m.cls := findClass_of_methodNamed Bd.named
  have hnm := (name_of_methodNamed Bd.named Bd.method).1
  have X0 : Stand p l e ({ frames := 0, cells := 0, slots := 0, locals := 0 } : Room) s m #[(.int k)] below meth c s₁ [] 0 0 := Stand.of_body Bd
  have e0 : s₁.heap = h0 := by rw [← hh, Bd.state]; rfl
  have N0 := Fr.nil n0
  have K0 : Keep h0 h0 [] := Keep.refl _ _
  have pre0 : ∀ tgt, Steps p.tables e below (s₁.setTop (mkF m 0 #[.val (.int k)] [])) tgt → Steps p.tables e below (s₁.setTop (entryFrame m #[(.int k)] 1)) tgt := fun tgt kgo => castTop (ef_rmpick m k) kgo
  have pre1 : ∀ tgt, Steps p.tables e below (s₁.setTop (mkF m 1 #[.val (.int k)] [(.int k)])) tgt → Steps p.tables e below (s₁.setTop (entryFrame m #[(.int k)] 1)) tgt := by
    intro tgt kgo
    refine pre0 _ ?_
    refine XS.iloadN X0.here hx rfl (hb hby d_method_2_code_0) rfl ?_
    show Steps p.tables e below (s₁.setTop (mkF m 1 #[.val (.int k)] [(.int k)])) _
    exact kgo
  by_cases hc1_2 : k = (0 : Int32)
  · obtain ⟨T3, X3, e3, st3⟩ := getS2 X0 hx hZ hown (host := "") (Or.inl (ow5 hw)) Via.refl e0 (S_OK.ext O0.2) (g := (mkF m 4 #[.val (.int k)] [])) rfl (hb hby d_method_2_code_4)
    obtain ⟨fs, hretL, hrun, hended, hW, hsame⟩ := X3.leave (v := some (.ref w_OK)) (fun h => by rw [Bd.returns] at h; cases h)
    refine ⟨_, _, pre1 _ ?_, hrun, hended, _, _, rfl, ?_, ⟨_, rfl⟩, hW, hsame.mono (by decide) (by decide)⟩
    · refine XS.ifNo X0.here hx rfl (hb hby d_method_2_code_1) rfl ((if0 _ _).trans (teq hc1_2).2) ?_
      show Steps p.tables e below (s₁.setTop (mkF m 4 #[.val (.int k)] [])) _
      refine st3 _ ?_
      show Steps p.tables e below (T3.setTop (mkF m 7 #[.val (.int k)] [(.ref w_OK)])) _
      exact retOut X3 hx Bd.returns rfl (Or.inr (Or.inr (Or.inr (Or.inr ⟨rfl, rfl, rfl⟩)))) (hb hby d_method_2_code_7) hretL
    · show Q_rmpick Z k w_OK w_PAYMENT_NOT_ALLOWED w_SINGLE_PAYMENT_LIMIT w_DAILY_PAYMENT_LIMIT w_MONTHLY_PAYMENT_LIMIT w_CURFEW w_DAILY_PLAY_LIMIT h0 n0 _ T3.heap _
      rw [e3]
      exact ⟨by simp only [pk, if_pos hc1_2], N0, rfl⟩
  · have pre4 : ∀ tgt, Steps p.tables e below (s₁.setTop (mkF m 10 #[.val (.int k)] [(.int (1 : Int32)), (.int k)])) tgt → Steps p.tables e below (s₁.setTop (entryFrame m #[(.int k)] 1)) tgt := by
      intro tgt kgo
      refine pre1 _ ?_
      refine XS.ifYes X0.here hx rfl (pc0 := 1) (pc' := 8) rfl (hb hby d_method_2_code_1) rfl ((if0 _ _).trans (feq hc1_2).2) (by decide) (by decide) ?_
      show Steps p.tables e below (s₁.setTop (mkF m 8 #[.val (.int k)] [])) _
      refine XS.iloadN X0.here hx rfl (hb hby d_method_2_code_8) rfl ?_
      show Steps p.tables e below (s₁.setTop (mkF m 9 #[.val (.int k)] [(.int k)])) _
      refine XS.iconst X0.here hx rfl (hb hby d_method_2_code_9) ?_
      show Steps p.tables e below (s₁.setTop (mkF m 10 #[.val (.int k)] [(.int (1 : Int32)), (.int k)])) _
      exact kgo
    by_cases hc10_5 : k = (1 : Int32)
    · obtain ⟨T6, X6, e6, st6⟩ := getS2 X0 hx hZ hown (host := "") (Or.inl (ow59 hw)) Via.refl e0 (S_PAYMENT_NOT_ALLOWED.ext O0.2) (g := (mkF m 13 #[.val (.int k)] [])) rfl (hb hby d_method_2_code_13)
      obtain ⟨fs, hretL, hrun, hended, hW, hsame⟩ := X6.leave (v := some (.ref w_PAYMENT_NOT_ALLOWED)) (fun h => by rw [Bd.returns] at h; cases h)
      refine ⟨_, _, pre4 _ ?_, hrun, hended, _, _, rfl, ?_, ⟨_, rfl⟩, hW, hsame.mono (by decide) (by decide)⟩
      · refine XS.icmpNo X0.here hx rfl (hb hby d_method_2_code_10) rfl (teq hc10_5).2 ?_
        show Steps p.tables e below (s₁.setTop (mkF m 13 #[.val (.int k)] [])) _
        refine st6 _ ?_
        show Steps p.tables e below (T6.setTop (mkF m 16 #[.val (.int k)] [(.ref w_PAYMENT_NOT_ALLOWED)])) _
        exact retOut X6 hx Bd.returns rfl (Or.inr (Or.inr (Or.inr (Or.inr ⟨rfl, rfl, rfl⟩)))) (hb hby d_method_2_code_16) hretL
      · show Q_rmpick Z k w_OK w_PAYMENT_NOT_ALLOWED w_SINGLE_PAYMENT_LIMIT w_DAILY_PAYMENT_LIMIT w_MONTHLY_PAYMENT_LIMIT w_CURFEW w_DAILY_PLAY_LIMIT h0 n0 _ T6.heap _
        rw [e6]
        exact ⟨by simp only [pk, if_neg hc1_2, if_pos hc10_5], N0, rfl⟩
    · have pre7 : ∀ tgt, Steps p.tables e below (s₁.setTop (mkF m 19 #[.val (.int k)] [(.int (2 : Int32)), (.int k)])) tgt → Steps p.tables e below (s₁.setTop (entryFrame m #[(.int k)] 1)) tgt := by
        intro tgt kgo
        refine pre4 _ ?_
        refine XS.icmpYes X0.here hx rfl (pc0 := 10) (pc' := 17) rfl (hb hby d_method_2_code_10) rfl (feq hc10_5).2 (by decide) (by decide) ?_
        show Steps p.tables e below (s₁.setTop (mkF m 17 #[.val (.int k)] [])) _
        refine XS.iloadN X0.here hx rfl (hb hby d_method_2_code_17) rfl ?_
        show Steps p.tables e below (s₁.setTop (mkF m 18 #[.val (.int k)] [(.int k)])) _
        refine XS.iconst X0.here hx rfl (hb hby d_method_2_code_18) ?_
        show Steps p.tables e below (s₁.setTop (mkF m 19 #[.val (.int k)] [(.int (2 : Int32)), (.int k)])) _
        exact kgo
      by_cases hc19_8 : k = (2 : Int32)
      · obtain ⟨T9, X9, e9, st9⟩ := getS2 X0 hx hZ hown (host := "") (Or.inl (ow61 hw)) Via.refl e0 (S_SINGLE_PAYMENT_LIMIT.ext O0.2) (g := (mkF m 22 #[.val (.int k)] [])) rfl (hb hby d_method_2_code_22)
        obtain ⟨fs, hretL, hrun, hended, hW, hsame⟩ := X9.leave (v := some (.ref w_SINGLE_PAYMENT_LIMIT)) (fun h => by rw [Bd.returns] at h; cases h)
        refine ⟨_, _, pre7 _ ?_, hrun, hended, _, _, rfl, ?_, ⟨_, rfl⟩, hW, hsame.mono (by decide) (by decide)⟩
        · refine XS.icmpNo X0.here hx rfl (hb hby d_method_2_code_19) rfl (teq hc19_8).2 ?_
          show Steps p.tables e below (s₁.setTop (mkF m 22 #[.val (.int k)] [])) _
          refine st9 _ ?_
          show Steps p.tables e below (T9.setTop (mkF m 25 #[.val (.int k)] [(.ref w_SINGLE_PAYMENT_LIMIT)])) _
          exact retOut X9 hx Bd.returns rfl (Or.inr (Or.inr (Or.inr (Or.inr ⟨rfl, rfl, rfl⟩)))) (hb hby d_method_2_code_25) hretL
        · show Q_rmpick Z k w_OK w_PAYMENT_NOT_ALLOWED w_SINGLE_PAYMENT_LIMIT w_DAILY_PAYMENT_LIMIT w_MONTHLY_PAYMENT_LIMIT w_CURFEW w_DAILY_PLAY_LIMIT h0 n0 _ T9.heap _
          rw [e9]
          exact ⟨by simp only [pk, if_neg hc1_2, if_neg hc10_5, if_pos hc19_8], N0, rfl⟩
      · have pre10 : ∀ tgt, Steps p.tables e below (s₁.setTop (mkF m 28 #[.val (.int k)] [(.int (3 : Int32)), (.int k)])) tgt → Steps p.tables e below (s₁.setTop (entryFrame m #[(.int k)] 1)) tgt := by
          intro tgt kgo
          refine pre7 _ ?_
          refine XS.icmpYes X0.here hx rfl (pc0 := 19) (pc' := 26) rfl (hb hby d_method_2_code_19) rfl (feq hc19_8).2 (by decide) (by decide) ?_
          show Steps p.tables e below (s₁.setTop (mkF m 26 #[.val (.int k)] [])) _
          refine XS.iloadN X0.here hx rfl (hb hby d_method_2_code_26) rfl ?_
          show Steps p.tables e below (s₁.setTop (mkF m 27 #[.val (.int k)] [(.int k)])) _
          refine XS.iconst X0.here hx rfl (hb hby d_method_2_code_27) ?_
          show Steps p.tables e below (s₁.setTop (mkF m 28 #[.val (.int k)] [(.int (3 : Int32)), (.int k)])) _
          exact kgo
        by_cases hc28_11 : k = (3 : Int32)
        · obtain ⟨T12, X12, e12, st12⟩ := getS2 X0 hx hZ hown (host := "") (Or.inl (ow34 hw)) Via.refl e0 (S_DAILY_PAYMENT_LIMIT.ext O0.2) (g := (mkF m 31 #[.val (.int k)] [])) rfl (hb hby d_method_2_code_31)
          obtain ⟨fs, hretL, hrun, hended, hW, hsame⟩ := X12.leave (v := some (.ref w_DAILY_PAYMENT_LIMIT)) (fun h => by rw [Bd.returns] at h; cases h)
          refine ⟨_, _, pre10 _ ?_, hrun, hended, _, _, rfl, ?_, ⟨_, rfl⟩, hW, hsame.mono (by decide) (by decide)⟩
          · refine XS.icmpNo X0.here hx rfl (hb hby d_method_2_code_28) rfl (teq hc28_11).2 ?_
            show Steps p.tables e below (s₁.setTop (mkF m 31 #[.val (.int k)] [])) _
            refine st12 _ ?_
            show Steps p.tables e below (T12.setTop (mkF m 34 #[.val (.int k)] [(.ref w_DAILY_PAYMENT_LIMIT)])) _
            exact retOut X12 hx Bd.returns rfl (Or.inr (Or.inr (Or.inr (Or.inr ⟨rfl, rfl, rfl⟩)))) (hb hby d_method_2_code_34) hretL
          · show Q_rmpick Z k w_OK w_PAYMENT_NOT_ALLOWED w_SINGLE_PAYMENT_LIMIT w_DAILY_PAYMENT_LIMIT w_MONTHLY_PAYMENT_LIMIT w_CURFEW w_DAILY_PLAY_LIMIT h0 n0 _ T12.heap _
            rw [e12]
            exact ⟨by simp only [pk, if_neg hc1_2, if_neg hc10_5, if_neg hc19_8, if_pos hc28_11], N0, rfl⟩
        · have pre13 : ∀ tgt, Steps p.tables e below (s₁.setTop (mkF m 37 #[.val (.int k)] [(.int (4 : Int32)), (.int k)])) tgt → Steps p.tables e below (s₁.setTop (entryFrame m #[(.int k)] 1)) tgt := by
            intro tgt kgo
            refine pre10 _ ?_
            refine XS.icmpYes X0.here hx rfl (pc0 := 28) (pc' := 35) rfl (hb hby d_method_2_code_28) rfl (feq hc28_11).2 (by decide) (by decide) ?_
            show Steps p.tables e below (s₁.setTop (mkF m 35 #[.val (.int k)] [])) _
            refine XS.iloadN X0.here hx rfl (hb hby d_method_2_code_35) rfl ?_
            show Steps p.tables e below (s₁.setTop (mkF m 36 #[.val (.int k)] [(.int k)])) _
            refine XS.iconst X0.here hx rfl (hb hby d_method_2_code_36) ?_
            show Steps p.tables e below (s₁.setTop (mkF m 37 #[.val (.int k)] [(.int (4 : Int32)), (.int k)])) _
            exact kgo
          by_cases hc37_14 : k = (4 : Int32)
          · obtain ⟨T15, X15, e15, st15⟩ := getS2 X0 hx hZ hown (host := "") (Or.inl (ow63 hw)) Via.refl e0 (S_MONTHLY_PAYMENT_LIMIT.ext O0.2) (g := (mkF m 40 #[.val (.int k)] [])) rfl (hb hby d_method_2_code_40)
            obtain ⟨fs, hretL, hrun, hended, hW, hsame⟩ := X15.leave (v := some (.ref w_MONTHLY_PAYMENT_LIMIT)) (fun h => by rw [Bd.returns] at h; cases h)
            refine ⟨_, _, pre13 _ ?_, hrun, hended, _, _, rfl, ?_, ⟨_, rfl⟩, hW, hsame.mono (by decide) (by decide)⟩
            · refine XS.icmpNo X0.here hx rfl (hb hby d_method_2_code_37) rfl (teq hc37_14).2 ?_
              show Steps p.tables e below (s₁.setTop (mkF m 40 #[.val (.int k)] [])) _
              refine st15 _ ?_
              show Steps p.tables e below (T15.setTop (mkF m 43 #[.val (.int k)] [(.ref w_MONTHLY_PAYMENT_LIMIT)])) _
              exact retOut X15 hx Bd.returns rfl (Or.inr (Or.inr (Or.inr (Or.inr ⟨rfl, rfl, rfl⟩)))) (hb hby d_method_2_code_43) hretL
            · show Q_rmpick Z k w_OK w_PAYMENT_NOT_ALLOWED w_SINGLE_PAYMENT_LIMIT w_DAILY_PAYMENT_LIMIT w_MONTHLY_PAYMENT_LIMIT w_CURFEW w_DAILY_PLAY_LIMIT h0 n0 _ T15.heap _
              rw [e15]
              exact ⟨by simp only [pk, if_neg hc1_2, if_neg hc10_5, if_neg hc19_8, if_neg hc28_11, if_pos hc37_14], N0, rfl⟩
          · have pre16 : ∀ tgt, Steps p.tables e below (s₁.setTop (mkF m 46 #[.val (.int k)] [(.int (5 : Int32)), (.int k)])) tgt → Steps p.tables e below (s₁.setTop (entryFrame m #[(.int k)] 1)) tgt := by
              intro tgt kgo
              refine pre13 _ ?_
              refine XS.icmpYes X0.here hx rfl (pc0 := 37) (pc' := 44) rfl (hb hby d_method_2_code_37) rfl (feq hc37_14).2 (by decide) (by decide) ?_
              show Steps p.tables e below (s₁.setTop (mkF m 44 #[.val (.int k)] [])) _
              refine XS.iloadN X0.here hx rfl (hb hby d_method_2_code_44) rfl ?_
              show Steps p.tables e below (s₁.setTop (mkF m 45 #[.val (.int k)] [(.int k)])) _
              refine XS.iconst X0.here hx rfl (hb hby d_method_2_code_45) ?_
              show Steps p.tables e below (s₁.setTop (mkF m 46 #[.val (.int k)] [(.int (5 : Int32)), (.int k)])) _
              exact kgo
            by_cases hc46_17 : k = (5 : Int32)
            · obtain ⟨T18, X18, e18, st18⟩ := getS2 X0 hx hZ hown (host := "") (Or.inl (ow67 hw)) Via.refl e0 (S_CURFEW.ext O0.2) (g := (mkF m 49 #[.val (.int k)] [])) rfl (hb hby d_method_2_code_49)
              obtain ⟨fs, hretL, hrun, hended, hW, hsame⟩ := X18.leave (v := some (.ref w_CURFEW)) (fun h => by rw [Bd.returns] at h; cases h)
              refine ⟨_, _, pre16 _ ?_, hrun, hended, _, _, rfl, ?_, ⟨_, rfl⟩, hW, hsame.mono (by decide) (by decide)⟩
              · refine XS.icmpNo X0.here hx rfl (hb hby d_method_2_code_46) rfl (teq hc46_17).2 ?_
                show Steps p.tables e below (s₁.setTop (mkF m 49 #[.val (.int k)] [])) _
                refine st18 _ ?_
                show Steps p.tables e below (T18.setTop (mkF m 52 #[.val (.int k)] [(.ref w_CURFEW)])) _
                exact retOut X18 hx Bd.returns rfl (Or.inr (Or.inr (Or.inr (Or.inr ⟨rfl, rfl, rfl⟩)))) (hb hby d_method_2_code_52) hretL
              · show Q_rmpick Z k w_OK w_PAYMENT_NOT_ALLOWED w_SINGLE_PAYMENT_LIMIT w_DAILY_PAYMENT_LIMIT w_MONTHLY_PAYMENT_LIMIT w_CURFEW w_DAILY_PLAY_LIMIT h0 n0 _ T18.heap _
                rw [e18]
                exact ⟨by simp only [pk, if_neg hc1_2, if_neg hc10_5, if_neg hc19_8, if_neg hc28_11, if_neg hc37_14, if_pos hc46_17], N0, rfl⟩
            · obtain ⟨T19, X19, e19, st19⟩ := getS2 X0 hx hZ hown (host := "") (Or.inl (ow57 hw)) Via.refl e0 (S_DAILY_PLAY_LIMIT.ext O0.2) (g := (mkF m 53 #[.val (.int k)] [])) rfl (hb hby d_method_2_code_53)
              obtain ⟨fs, hretL, hrun, hended, hW, hsame⟩ := X19.leave (v := some (.ref w_DAILY_PLAY_LIMIT)) (fun h => by rw [Bd.returns] at h; cases h)
              refine ⟨_, _, pre16 _ ?_, hrun, hended, _, _, rfl, ?_, ⟨_, rfl⟩, hW, hsame.mono (by decide) (by decide)⟩
              · refine XS.icmpYes X0.here hx rfl (pc0 := 46) (pc' := 53) rfl (hb hby d_method_2_code_46) rfl (feq hc46_17).2 (by decide) (by decide) ?_
                show Steps p.tables e below (s₁.setTop (mkF m 53 #[.val (.int k)] [])) _
                refine st19 _ ?_
                show Steps p.tables e below (T19.setTop (mkF m 56 #[.val (.int k)] [(.ref w_DAILY_PLAY_LIMIT)])) _
                exact retOut X19 hx Bd.returns rfl (Or.inr (Or.inr (Or.inr (Or.inr ⟨rfl, rfl, rfl⟩)))) (hb hby d_method_2_code_56) hretL
              · show Q_rmpick Z k w_OK w_PAYMENT_NOT_ALLOWED w_SINGLE_PAYMENT_LIMIT w_DAILY_PAYMENT_LIMIT w_MONTHLY_PAYMENT_LIMIT w_CURFEW w_DAILY_PLAY_LIMIT h0 n0 _ T19.heap _
                rw [e19]
                exact ⟨by simp only [pk, if_neg hc1_2, if_neg hc10_5, if_neg hc19_8, if_neg hc28_11, if_neg hc37_14, if_neg hc46_17], N0, rfl⟩
theorem d_jdk_30_method_1_code_0 : decode jdk_30_method_1_code 0 = .ok (.aload_n 0, 1) := by decide +kernel
theorem d_jdk_30_method_1_code_1 : decode jdk_30_method_1_code 1 = .ok (.invokespecial 1, 3) := by decide +kernel
theorem d_jdk_30_method_1_code_4 : decode jdk_30_method_1_code 4 = .ok (.return_, 1) := by decide +kernel
def Q_rmrec (Z : State) (a : Addr) (h0 : Heap) (n0 : Nat) (v : Option Value) (h : Heap) (L : List Loc) : Prop := v = none ∧ Fr n0 L ∧ h = h0
theorem ef_rmrec (m : MethodId) (a : Addr) : entryFrame m #[(.ref a)] 1 = mkF m 0 #[.val (.ref a)] [] := by first | (simp [entryFrame, mkF, argsToLocals, Value.category]; done) | rfl
set_option maxRecDepth 65536 in
set_option maxHeartbeats 40000000 in
theorem rmrec (l : Launch) (Z : State) (a0 : Array Value) (hw : ∀ d ∈ tables_1, d.before a0 Z = true) (ws : List Jvm.Cond) (a : Addr) (h0 : Heap) (n0 : Nat) (O0 : Old Z n0 h0) :
    MetFree l (⟨"java/lang/Record", "<init>", "()V"⟩ : MethodName) (head1 (Jvm.Cond.code (⟨"java/lang/Record", "<init>", "()V"⟩ : MethodName) jdk_30_method_1_code 1 none :: ws) ({ frames := 1, cells := 0, slots := 0, locals := 12 } : Room)) (fun aa U => aa = #[(.ref a)] ∧ Z.Warmed39 U.vm ∧ U.heap = h0) (fun _ _ _ _ _ => True) (fun _ U o U' => ∃ v L, o = .returned v ∧ Q_rmrec Z a h0 n0 v U'.heap L ∧ FrameEnd U o U' L ({ frames := 1, cells := 0, slots := 0, locals := 12 } : Room).cells ({ frames := 1, cells := 0, slots := 0, locals := 12 } : Room).slots) := by
  refine MetFree.of_bodySF (plainFor_of_name pn1) hisR ?_
  intro p e s m args below meth c s₁ Bd hml0 hP hK
  obtain ⟨rfl, hZ, hh⟩ := hP
  have hx := Bd.exec
  have hby := Bd.bytes
  have hml : c.maxLocals = 1 := hml0
  have hown : s.vm.findClass "java/lang/Record" = some m.cls := findClass_of_methodNamed Bd.named
  have hnm := (name_of_methodNamed Bd.named Bd.method).1
  have X0 : Stand p l e ({ frames := 1, cells := 0, slots := 0, locals := 12 } : Room) s m #[(.ref a)] below meth c s₁ [] 0 0 := Stand.of_body Bd
  have e0 : s₁.heap = h0 := by rw [← hh, Bd.state]; rfl
  have N0 := Fr.nil n0
  have K0 : Keep h0 h0 [] := Keep.refl _ _
  have pre0 : ∀ tgt, Steps p.tables e below (s₁.setTop (mkF m 0 #[.val (.ref a)] [])) tgt → Steps p.tables e below (s₁.setTop (entryFrame m #[(.ref a)] 1)) tgt := fun tgt kgo => castTop (ef_rmrec m a) kgo
  obtain ⟨T1, X1, e1, st1⟩ := initO X0 hx hZ hown (ow19 hw) (ow20 hw) (ow21 hw) e0 (g := (mkF m 1 #[.val (.ref a)] [(.ref a)])) rfl (by rw [hml]; rfl) rfl (hb hby d_jdk_30_method_1_code_1) (by decide) (W := 0) (by show 2 * 0 + _ ≤ _; exact Nat.le_of_eq rfl) (by decide)
  obtain ⟨fs, hretL, hrun, hended, hW, hsame⟩ := X1.leave (v := none) (fun _ => rfl)
  refine ⟨_, _, pre0 _ ?_, hrun, hended, _, _, rfl, ?_, ⟨_, rfl⟩, hW, hsame.mono (by decide) (by decide)⟩
  · refine XS.aloadN X0.here hx rfl (hb hby d_jdk_30_method_1_code_0) rfl rfl ?_
    show Steps p.tables e below (s₁.setTop (mkF m 1 #[.val (.ref a)] [(.ref a)])) _
    refine st1 _ ?_
    show Steps p.tables e below (T1.setTop (mkF m 4 #[.val (.ref a)] [])) _
    exact X1.returnOut hx Bd.returns (hb hby d_jdk_30_method_1_code_4) hretL
  · show Q_rmrec Z a h0 n0 _ T1.heap _
    rw [e1]
    exact ⟨rfl, N0, rfl⟩
theorem d_jdk_18_method_1_code_0 : decode jdk_18_method_1_code 0 = .ok (.aload_n 0, 1) := by decide +kernel
theorem d_jdk_18_method_1_code_1 : decode jdk_18_method_1_code 1 = .ok (.invokespecial 1, 3) := by decide +kernel
theorem d_jdk_18_method_1_code_4 : decode jdk_18_method_1_code 4 = .ok (.return_, 1) := by decide +kernel
def Q_rmnum (Z : State) (a : Addr) (h0 : Heap) (n0 : Nat) (v : Option Value) (h : Heap) (L : List Loc) : Prop := v = none ∧ Fr n0 L ∧ h = h0
theorem ef_rmnum (m : MethodId) (a : Addr) : entryFrame m #[(.ref a)] 1 = mkF m 0 #[.val (.ref a)] [] := by first | (simp [entryFrame, mkF, argsToLocals, Value.category]; done) | rfl
set_option maxRecDepth 65536 in
set_option maxHeartbeats 40000000 in
theorem rmnum (l : Launch) (Z : State) (a0 : Array Value) (hw : ∀ d ∈ tables_1, d.before a0 Z = true) (ws : List Jvm.Cond) (a : Addr) (h0 : Heap) (n0 : Nat) (O0 : Old Z n0 h0) :
    MetFree l (⟨"java/lang/Number", "<init>", "()V"⟩ : MethodName) (head1 (Jvm.Cond.code (⟨"java/lang/Number", "<init>", "()V"⟩ : MethodName) jdk_18_method_1_code 1 none :: ws) ({ frames := 1, cells := 0, slots := 0, locals := 12 } : Room)) (fun aa U => aa = #[(.ref a)] ∧ Z.Warmed39 U.vm ∧ U.heap = h0) (fun _ _ _ _ _ => True) (fun _ U o U' => ∃ v L, o = .returned v ∧ Q_rmnum Z a h0 n0 v U'.heap L ∧ FrameEnd U o U' L ({ frames := 1, cells := 0, slots := 0, locals := 12 } : Room).cells ({ frames := 1, cells := 0, slots := 0, locals := 12 } : Room).slots) := by
  refine MetFree.of_bodySF (plainFor_of_name pn2) hisR ?_
  intro p e s m args below meth c s₁ Bd hml0 hP hK
  obtain ⟨rfl, hZ, hh⟩ := hP
  have hx := Bd.exec
  have hby := Bd.bytes
  have hml : c.maxLocals = 1 := hml0
  have hown : s.vm.findClass "java/lang/Number" = some m.cls := findClass_of_methodNamed Bd.named
  have hnm := (name_of_methodNamed Bd.named Bd.method).1
  have X0 : Stand p l e ({ frames := 1, cells := 0, slots := 0, locals := 12 } : Room) s m #[(.ref a)] below meth c s₁ [] 0 0 := Stand.of_body Bd
  have e0 : s₁.heap = h0 := by rw [← hh, Bd.state]; rfl
  have N0 := Fr.nil n0
  have K0 : Keep h0 h0 [] := Keep.refl _ _
  have pre0 : ∀ tgt, Steps p.tables e below (s₁.setTop (mkF m 0 #[.val (.ref a)] [])) tgt → Steps p.tables e below (s₁.setTop (entryFrame m #[(.ref a)] 1)) tgt := fun tgt kgo => castTop (ef_rmnum m a) kgo
  obtain ⟨T1, X1, e1, st1⟩ := initO X0 hx hZ hown (ow54 hw) (ow20 hw) (ow21 hw) e0 (g := (mkF m 1 #[.val (.ref a)] [(.ref a)])) rfl (by rw [hml]; rfl) rfl (hb hby d_jdk_18_method_1_code_1) (by decide) (W := 0) (by show 2 * 0 + _ ≤ _; exact Nat.le_of_eq rfl) (by decide)
  obtain ⟨fs, hretL, hrun, hended, hW, hsame⟩ := X1.leave (v := none) (fun _ => rfl)
  refine ⟨_, _, pre0 _ ?_, hrun, hended, _, _, rfl, ?_, ⟨_, rfl⟩, hW, hsame.mono (by decide) (by decide)⟩
  · refine XS.aloadN X0.here hx rfl (hb hby d_jdk_18_method_1_code_0) rfl rfl ?_
    show Steps p.tables e below (s₁.setTop (mkF m 1 #[.val (.ref a)] [(.ref a)])) _
    refine st1 _ ?_
    show Steps p.tables e below (T1.setTop (mkF m 4 #[.val (.ref a)] [])) _
    exact X1.returnOut hx Bd.returns (hb hby d_jdk_18_method_1_code_4) hretL
  · show Q_rmnum Z a h0 n0 _ T1.heap _
    rw [e1]
    exact ⟨rfl, N0, rfl⟩
theorem d_jdk_35_method_26_code_0 : decode jdk_35_method_26_code 0 = .ok (.aload_n 0, 1) := by decide +kernel
theorem d_jdk_35_method_26_code_1 : decode jdk_35_method_26_code 1 = .ok (.invokespecial 270, 3) := by decide +kernel
theorem d_jdk_35_method_26_code_4 : decode jdk_35_method_26_code 4 = .ok (.aload_n 0, 1) := by decide +kernel
theorem d_jdk_35_method_26_code_5 : decode jdk_35_method_26_code 5 = .ok (.lload_n 1, 1) := by decide +kernel
theorem d_jdk_35_method_26_code_6 : decode jdk_35_method_26_code 6 = .ok (.putfield 273, 3) := by decide +kernel
theorem d_jdk_35_method_26_code_9 : decode jdk_35_method_26_code 9 = .ok (.return_, 1) := by decide +kernel
def Q_rmlin (Z : State) (a : Addr) (q : Int64) (h0 : Heap) (n0 : Nat) (v : Option Value) (h : Heap) (L : List Loc) : Prop := v = none ∧ Fr n0 L ∧ Keep h0 h [a]
theorem ef_rmlin (m : MethodId) (a : Addr) (q : Int64) : entryFrame m #[(.ref a), (.long q)] 3 = mkF m 0 #[.val (.ref a), .val (.long q), .second] [] := by first | (simp [entryFrame, mkF, argsToLocals, Value.category]; done) | rfl
set_option maxRecDepth 65536 in
set_option maxHeartbeats 40000000 in
theorem rmlin (l : Launch) (Z : State) (a0 : Array Value) (hw : ∀ d ∈ tables_1, d.before a0 Z = true) (ws : List Jvm.Cond) (a : Addr) (q : Int64) (h0 : Heap) (n0 : Nat) (O0 : Old Z n0 h0) (Ea : Exa Z h0 a "java/lang/Long") (Fv : Fld Z h0 a "java/lang/Long" "value" "J" (.long (0 : Int64))) (ga : n0 ≤ a) :
    MetFree l (⟨"java/lang/Long", "<init>", "(J)V"⟩ : MethodName) (head1 (Jvm.Cond.code (⟨"java/lang/Long", "<init>", "(J)V"⟩ : MethodName) jdk_35_method_26_code 3 none :: ws) ({ frames := 2, cells := 0, slots := 0, locals := 24 } : Room)) (fun aa U => aa = #[(.ref a), (.long q)] ∧ Z.Warmed39 U.vm ∧ U.heap = h0) (fun _ _ _ _ _ => True) (fun _ U o U' => ∃ v L, o = .returned v ∧ Q_rmlin Z a q h0 n0 v U'.heap L ∧ FrameEnd U o U' L ({ frames := 2, cells := 0, slots := 0, locals := 24 } : Room).cells ({ frames := 2, cells := 0, slots := 0, locals := 24 } : Room).slots) := by
  refine MetFree.of_bodySF (plainFor_of_name pn3) hisR ?_
  intro p e s m args below meth c s₁ Bd hml0 hP hK
  obtain ⟨rfl, hZ, hh⟩ := hP
  have hx := Bd.exec
  have hby := Bd.bytes
  have hml : c.maxLocals = 3 := hml0
  have hown : s.vm.findClass "java/lang/Long" = some m.cls := findClass_of_methodNamed Bd.named
  have hnm := (name_of_methodNamed Bd.named Bd.method).1
  have X0 : Stand p l e ({ frames := 2, cells := 0, slots := 0, locals := 24 } : Room) s m #[(.ref a), (.long q)] below meth c s₁ [] 0 0 := Stand.of_body Bd
  have e0 : s₁.heap = h0 := by rw [← hh, Bd.state]; rfl
  have N0 := Fr.nil n0
  have K0 : Keep h0 h0 [a] := Keep.refl _ _
  have pre0 : ∀ tgt, Steps p.tables e below (s₁.setTop (mkF m 0 #[.val (.ref a), .val (.long q), .second] [])) tgt → Steps p.tables e below (s₁.setTop (entryFrame m #[(.ref a), (.long q)] 3)) tgt := fun tgt kgo => castTop (ef_rmlin m a q) kgo
  obtain ⟨_, _, ⟨T1, L1, k1, n1⟩, -, X1, ⟨Lc1, hQ1, l1, y1, z1⟩, st1⟩ := X0.specialBack hx (y := (⟨"java/lang/Number", "<init>", "()V"⟩ : MethodName)) rfl hown (mvT hZ (ow48 hw)) (mvT hZ (ow49 hw)) (mvT hZ (ow53 hw)) (by decide) (backOf (W := 0) (rmnum l Z a0 hw [] a  h0 n0 O0 ) hZ (ow53 hw) (ow52 hw) (by decide) (by decide)) (g := (mkF m 1 #[.val (.ref a), .val (.long q), .second] [(.ref a)])) rfl (by rw [hml]; rfl) (Steps.refl _) (a := a) (argsL := []) (rest := []) (lenOf pd0 rfl) rfl (by show 2 * 0 + _ ≤ _; exact Nat.le_of_eq rfl) (hb hby d_jdk_35_method_26_code_1) (fun _ _ => ⟨rfl, e0, (by decide : 0 + 0 ≤ _), (by decide : 0 + 0 ≤ _)⟩)
  dsimp only [Pt.U, Pt.locs, Pt.cells, Pt.slots] at X1 l1 y1 z1 st1 hQ1
  subst l1 y1 z1
  obtain ⟨rfl, Nq1, eq1⟩ := hQ1
  have N2 := Fr.app N0 Nq1
  obtain ⟨T3, h3, X3, e3, W3, st3⟩ := putF X1 hx hZ hown (host := "") (Or.inl (ow55 hw)) Via.refl eq1 Fv Ea (Or.inr ⟨(ow56 hw), rfl, hnm⟩) (ow43 hw) (ty := .long) (by decide) rfl rfl (g := (mkF m 6 #[.val (.ref a), .val (.long q), .second] [(.long q), (.ref a)])) rfl rfl (hb hby d_jdk_35_method_26_code_6)
  have Fw3 := Fv.same W3
  have N4 := Fr.snoc X3 N2 ga
  have O4 := O0.wr W3 ga
  have K4 := K0.wr W3 (Or.inl (List.mem_of_getElem? (i := 0) rfl))
  obtain ⟨fs, hretL, hrun, hended, hW, hsame⟩ := X3.leave (v := none) (fun _ => rfl)
  refine ⟨_, _, pre0 _ ?_, hrun, hended, _, _, rfl, ?_, ⟨_, rfl⟩, hW, hsame.mono (by decide) (by decide)⟩
  · refine XS.aloadN X0.here hx rfl (hb hby d_jdk_35_method_26_code_0) rfl rfl ?_
    show Steps p.tables e below (s₁.setTop (mkF m 1 #[.val (.ref a), .val (.long q), .second] [(.ref a)])) _
    refine st1.trans ?_
    show Steps p.tables e below (T1.setTop (mkF m 4 #[.val (.ref a), .val (.long q), .second] [])) _
    refine XS.aloadN X1.here hx rfl (hb hby d_jdk_35_method_26_code_4) rfl rfl ?_
    show Steps p.tables e below (T1.setTop (mkF m 5 #[.val (.ref a), .val (.long q), .second] [(.ref a)])) _
    refine XS.lloadN X1.here hx rfl (hb hby d_jdk_35_method_26_code_5) rfl ?_
    show Steps p.tables e below (T1.setTop (mkF m 6 #[.val (.ref a), .val (.long q), .second] [(.long q), (.ref a)])) _
    refine st3 _ ?_
    show Steps p.tables e below (T3.setTop (mkF m 9 #[.val (.ref a), .val (.long q), .second] [])) _
    exact X3.returnOut hx Bd.returns (hb hby d_jdk_35_method_26_code_9) hretL
  · show Q_rmlin Z a q h0 n0 _ T3.heap _
    rw [e3]
    exact ⟨rfl, N4, K4⟩
theorem own_idx {q : Int64} (h1 : ¬ lcmpW q (-128 : Int64) < (0 : Int32)) (h2 : ¬ (0 : Int32) < lcmpW q (127 : Int64)) : ¬ (q.toInt32 + (128 : Int32)) < 0 ∧ (q.toInt32 + (128 : Int32)).toNatClampNeg < 256 := by
  rw [lw_lt, Int64.lt_iff_toInt_lt] at h1
  rw [lw_gt, Int64.lt_iff_toInt_lt] at h2
  have e1 : (-128 : Int64).toInt = -128 := rfl
  have e2 : (127 : Int64).toInt = 127 := rfl
  have e3 : (128 : Int32).toInt = 128 := rfl
  have e4 : (0 : Int32).toInt = 0 := rfl
  have a1 := c_l2i q
  have a2 := c_iadd q.toInt32 (128 : Int32)
  have a3 := rng32 q.toInt32
  have a4 := rng32 (q.toInt32 + (128 : Int32))
  have n1 : ¬ (q.toInt32 + (128 : Int32)) < 0 := by rw [Int32.lt_iff_toInt_lt]; omega
  have a5 := nat_of n1
  exact ⟨n1, by omega⟩
theorem d_jdk_35_method_24_code_0 : decode jdk_35_method_24_code 0 = .ok (.sipush 128, 3) := by decide +kernel
theorem d_jdk_35_method_24_code_3 : decode jdk_35_method_24_code 3 = .ok (.istore_n 2, 1) := by decide +kernel
theorem d_jdk_35_method_24_code_4 : decode jdk_35_method_24_code 4 = .ok (.lload_n 0, 1) := by decide +kernel
theorem d_jdk_35_method_24_code_5 : decode jdk_35_method_24_code 5 = .ok (.ldc2_w 230, 3) := by decide +kernel
theorem d_jdk_35_method_24_code_8 : decode jdk_35_method_24_code 8 = .ok (.lcmp, 1) := by decide +kernel
theorem d_jdk_35_method_24_code_9 : decode jdk_35_method_24_code 9 = .ok (.ifCond .lt 22, 3) := by decide +kernel
theorem d_jdk_35_method_24_code_12 : decode jdk_35_method_24_code 12 = .ok (.lload_n 0, 1) := by decide +kernel
theorem d_jdk_35_method_24_code_13 : decode jdk_35_method_24_code 13 = .ok (.ldc2_w 232, 3) := by decide +kernel
theorem d_jdk_35_method_24_code_16 : decode jdk_35_method_24_code 16 = .ok (.lcmp, 1) := by decide +kernel
theorem d_jdk_35_method_24_code_17 : decode jdk_35_method_24_code 17 = .ok (.ifCond .gt 14, 3) := by decide +kernel
theorem d_jdk_35_method_24_code_20 : decode jdk_35_method_24_code 20 = .ok (.getstatic 234, 3) := by decide +kernel
theorem d_jdk_35_method_24_code_23 : decode jdk_35_method_24_code 23 = .ok (.lload_n 0, 1) := by decide +kernel
theorem d_jdk_35_method_24_code_24 : decode jdk_35_method_24_code 24 = .ok (.l2i, 1) := by decide +kernel
theorem d_jdk_35_method_24_code_25 : decode jdk_35_method_24_code 25 = .ok (.sipush 128, 3) := by decide +kernel
theorem d_jdk_35_method_24_code_28 : decode jdk_35_method_24_code 28 = .ok (.iadd, 1) := by decide +kernel
theorem d_jdk_35_method_24_code_29 : decode jdk_35_method_24_code 29 = .ok (.aaload, 1) := by decide +kernel
theorem d_jdk_35_method_24_code_30 : decode jdk_35_method_24_code 30 = .ok (.areturn, 1) := by decide +kernel
theorem d_jdk_35_method_24_code_31 : decode jdk_35_method_24_code 31 = .ok (.new 1, 3) := by decide +kernel
theorem d_jdk_35_method_24_code_34 : decode jdk_35_method_24_code 34 = .ok (.dup, 1) := by decide +kernel
theorem d_jdk_35_method_24_code_35 : decode jdk_35_method_24_code 35 = .ok (.lload_n 0, 1) := by decide +kernel
theorem d_jdk_35_method_24_code_36 : decode jdk_35_method_24_code 36 = .ok (.invokespecial 240, 3) := by decide +kernel
theorem d_jdk_35_method_24_code_39 : decode jdk_35_method_24_code 39 = .ok (.areturn, 1) := by decide +kernel
def Q_rmval (Z : State) (q : Int64) (ac : Addr) (cl : Cell) (h0 : Heap) (n0 : Nat) (v : Option Value) (h : Heap) (L : List Loc) : Prop := ∃ b : Addr, v = some (.ref b) ∧ Fr n0 L ∧ Keep h0 h []
theorem ef_rmval (m : MethodId) (q : Int64) : entryFrame m #[(.long q)] 3 = mkF m 0 #[.val (.long q), .second, .unset] [] := by first | (simp [entryFrame, mkF, argsToLocals, Value.category]; done) | rfl
set_option maxRecDepth 65536 in
set_option maxHeartbeats 40000000 in
theorem rmval (l : Launch) (Z : State) (a0 : Array Value) (hw : ∀ d ∈ tables_1, d.before a0 Z = true) (ws : List Jvm.Cond) (q : Int64) (ac : Addr) (cl : Cell) (h0 : Heap) (n0 : Nat) (O0 : Old Z n0 h0) (Sc : Sta Z Z.heap "java/lang/Long$LongCache" "cache" "[Ljava/lang/Long;" (.ref ac)) (Ac : Arr Z Z.heap ac cl (.object "java/lang/Long")) (hsz : cl.slots.size = 256) (hall : ∀ j : Nat, j < 256 → ∃ b : Addr, cl.slots[j]? = some (.ref b)) :
    MetFree l (⟨"java/lang/Long", "valueOf", "(J)Ljava/lang/Long;"⟩ : MethodName) (head1 (Jvm.Cond.code (⟨"java/lang/Long", "valueOf", "(J)Ljava/lang/Long;"⟩ : MethodName) jdk_35_method_24_code 3 (some (.object "java/lang/Long")) :: ws) ({ frames := 3, cells := 1, slots := 1, locals := 39 } : Room)) (fun aa U => aa = #[(.long q)] ∧ Z.Warmed39 U.vm ∧ U.heap = h0) (fun _ _ _ _ _ => True) (fun _ U o U' => ∃ v L, o = .returned v ∧ Q_rmval Z q ac cl h0 n0 v U'.heap L ∧ FrameEnd U o U' L ({ frames := 3, cells := 1, slots := 1, locals := 39 } : Room).cells ({ frames := 3, cells := 1, slots := 1, locals := 39 } : Room).slots) := by
  refine MetFree.of_bodySF (plainFor_of_name pn3) hisR ?_
  intro p e s m args below meth c s₁ Bd hml0 hP hK
  obtain ⟨rfl, hZ, hh⟩ := hP
  have hx := Bd.exec
  have hby := Bd.bytes
  have hml : c.maxLocals = 3 := hml0
  have hown : s.vm.findClass "java/lang/Long" = some m.cls := findClass_of_methodNamed Bd.named
  have hnm := (name_of_methodNamed Bd.named Bd.method).1
  have X0 : Stand p l e ({ frames := 3, cells := 1, slots := 1, locals := 39 } : Room) s m #[(.long q)] below meth c s₁ [] 0 0 := Stand.of_body Bd
  have e0 : s₁.heap = h0 := by rw [← hh, Bd.state]; rfl
  have N0 := Fr.nil n0
  have K0 : Keep h0 h0 [] := Keep.refl _ _
  have pre0 : ∀ tgt, Steps p.tables e below (s₁.setTop (mkF m 0 #[.val (.long q), .second, .unset] [])) tgt → Steps p.tables e below (s₁.setTop (entryFrame m #[(.long q)] 3)) tgt := fun tgt kgo => castTop (ef_rmval m q) kgo
  have pre1 : ∀ tgt, Steps p.tables e below (s₁.setTop (mkF m 9 #[.val (.long q), .second, .val (.int (128 : Int32))] [(.int (lcmpW q (-128 : Int64)))])) tgt → Steps p.tables e below (s₁.setTop (entryFrame m #[(.long q)] 3)) tgt := by
    intro tgt kgo
    refine pre0 _ ?_
    refine XS.sipush X0.here hx rfl (hb hby d_jdk_35_method_24_code_0) ?_
    show Steps p.tables e below (s₁.setTop (mkF m 3 #[.val (.long q), .second, .unset] [(.int (128 : Int32))])) _
    refine XS.istoreN X0.here hx rfl (hb hby d_jdk_35_method_24_code_3) rfl (l' := #[.val (.long q), .second, .val (.int (128 : Int32))]) rfl ?_
    show Steps p.tables e below (s₁.setTop (mkF m 4 #[.val (.long q), .second, .val (.int (128 : Int32))] [])) _
    refine XS.lloadN X0.here hx rfl (hb hby d_jdk_35_method_24_code_4) rfl ?_
    show Steps p.tables e below (s₁.setTop (mkF m 5 #[.val (.long q), .second, .val (.int (128 : Int32))] [(.long q)])) _
    refine X0.ldc2J hx hown (mvT hZ (ow40 hw)) rfl (hb hby d_jdk_35_method_24_code_5) ?_
    show Steps p.tables e below (s₁.setTop (mkF m 8 #[.val (.long q), .second, .val (.int (128 : Int32))] [(.long (-128 : Int64)), (.long q)])) _
    refine XS.lcmp X0.here hx rfl (hb hby d_jdk_35_method_24_code_8) rfl ?_
    show Steps p.tables e below (s₁.setTop (mkF m 9 #[.val (.long q), .second, .val (.int (128 : Int32))] [(.int (lcmpW q (-128 : Int64)))])) _
    exact kgo
  by_cases hc9_2 : (lcmpW q (-128 : Int64)) < (0 : Int32)
  · obtain ⟨T3, h3, X3, e3, E3, A3, D3, U3, st3⟩ := newO X0 hx hZ hown (ow42 hw) (ow43 hw) (ow38 hw) e0 (g := (mkF m 31 #[.val (.long q), .second, .val (.int (128 : Int32))] [])) rfl (hb hby d_jdk_35_method_24_code_31) (by decide) (by decide)
    obtain ⟨b3, g3⟩ : ∃ z, z = h0.size := ⟨_, rfl⟩
    rw [← g3] at A3 D3 U3 st3
    have gn3 : n0 ≤ b3 := Nat.le_trans (own_sz O0) (Nat.le_of_eq g3.symm)
    have sz3 : h0.size ≤ b3 := Nat.le_trans K0.1 (Nat.le_of_eq g3.symm)
    have O4 := O0.ext E3
    have K4 := K0.ext E3
    have Fvalue_3 : Fld Z h3 b3 "java/lang/Long" "value" "J" (.long (0 : Int64)) := D3 (Or.inr (ow56 hw)) (ty := .long) (by decide)
    obtain ⟨_, _, ⟨T5, L5, k5, n5⟩, -, X5, ⟨Lc5, hQ5, l5, y5, z5⟩, st5⟩ := X3.specialBack hx (y := (⟨"java/lang/Long", "<init>", "(J)V"⟩ : MethodName)) rfl hown (mvT hZ (ow44 hw)) (mvT hZ (ow45 hw)) (mvT hZ (ow47 hw)) (by decide) (backOf (W := 1) (rmlin l Z a0 hw [] b3 q  h3 n0 O4 A3 Fvalue_3 gn3) hZ (ow47 hw) (ow38 hw) (by decide) (by decide)) (g := (mkF m 36 #[.val (.long q), .second, .val (.int (128 : Int32))] [(.long q), (.ref b3), (.ref b3)])) rfl (by rw [hml]; rfl) (Steps.refl _) (a := b3) (argsL := [(.long q)]) (rest := [(.ref b3)]) (lenOf pd1 rfl) rfl (by show 2 * 0 + _ ≤ _; exact Nat.le_of_eq rfl) (hb hby d_jdk_35_method_24_code_36) (fun _ _ => ⟨rfl, e3, (by decide : 1 + 0 ≤ _), (by decide : 1 + 0 ≤ _)⟩)
    dsimp only [Pt.U, Pt.locs, Pt.cells, Pt.slots] at X5 l5 y5 z5 st5 hQ5
    subst l5 y5 z5
    obtain ⟨rfl, Nq5, kp5⟩ := hQ5
    have N6 := Fr.app N0 Nq5
    have O7 := O4.keep kp5 (allS gn3 all0)
    have K7 := K4.trans kp5 (allS (Or.inr sz3) all0)
    obtain ⟨fs, hretL, hrun, hended, hW, hsame⟩ := X5.leave (v := some (.ref b3)) (fun h => by rw [Bd.returns] at h; cases h)
    refine ⟨_, _, pre1 _ ?_, hrun, hended, _, _, rfl, ?_, ⟨_, rfl⟩, hW, hsame.mono (by decide) (by decide)⟩
    · refine XS.ifYes X0.here hx rfl (pc0 := 9) (pc' := 31) rfl (hb hby d_jdk_35_method_24_code_9) rfl ((if0 _ _).trans (tlt hc9_2).1) (by decide) (by decide) ?_
      show Steps p.tables e below (s₁.setTop (mkF m 31 #[.val (.long q), .second, .val (.int (128 : Int32))] [])) _
      refine st3 _ ?_
      show Steps p.tables e below (T3.setTop (mkF m 34 #[.val (.long q), .second, .val (.int (128 : Int32))] [(.ref b3)])) _
      refine XS.dup X3.here hx rfl (hb hby d_jdk_35_method_24_code_34) rfl rfl ?_
      show Steps p.tables e below (T3.setTop (mkF m 35 #[.val (.long q), .second, .val (.int (128 : Int32))] [(.ref b3), (.ref b3)])) _
      refine XS.lloadN X3.here hx rfl (hb hby d_jdk_35_method_24_code_35) rfl ?_
      show Steps p.tables e below (T3.setTop (mkF m 36 #[.val (.long q), .second, .val (.int (128 : Int32))] [(.long q), (.ref b3), (.ref b3)])) _
      refine st5.trans ?_
      show Steps p.tables e below (T5.setTop (mkF m 39 #[.val (.long q), .second, .val (.int (128 : Int32))] [(.ref b3)])) _
      exact retOut X5 hx Bd.returns rfl (Or.inr (Or.inr (Or.inr (Or.inr ⟨rfl, rfl, rfl⟩)))) (hb hby d_jdk_35_method_24_code_39) hretL
    · show Q_rmval Z q ac cl h0 n0 _ T5.heap _
      exact ⟨_, rfl, N6, K7⟩
  · have pre8 : ∀ tgt, Steps p.tables e below (s₁.setTop (mkF m 17 #[.val (.long q), .second, .val (.int (128 : Int32))] [(.int (lcmpW q (127 : Int64)))])) tgt → Steps p.tables e below (s₁.setTop (entryFrame m #[(.long q)] 3)) tgt := by
      intro tgt kgo
      refine pre1 _ ?_
      refine XS.ifNo X0.here hx rfl (hb hby d_jdk_35_method_24_code_9) rfl ((if0 _ _).trans (flt hc9_2).1) ?_
      show Steps p.tables e below (s₁.setTop (mkF m 12 #[.val (.long q), .second, .val (.int (128 : Int32))] [])) _
      refine XS.lloadN X0.here hx rfl (hb hby d_jdk_35_method_24_code_12) rfl ?_
      show Steps p.tables e below (s₁.setTop (mkF m 13 #[.val (.long q), .second, .val (.int (128 : Int32))] [(.long q)])) _
      refine X0.ldc2J hx hown (mvT hZ (ow41 hw)) rfl (hb hby d_jdk_35_method_24_code_13) ?_
      show Steps p.tables e below (s₁.setTop (mkF m 16 #[.val (.long q), .second, .val (.int (128 : Int32))] [(.long (127 : Int64)), (.long q)])) _
      refine XS.lcmp X0.here hx rfl (hb hby d_jdk_35_method_24_code_16) rfl ?_
      show Steps p.tables e below (s₁.setTop (mkF m 17 #[.val (.long q), .second, .val (.int (128 : Int32))] [(.int (lcmpW q (127 : Int64)))])) _
      exact kgo
    by_cases hc17_9 : (0 : Int32) < (lcmpW q (127 : Int64))
    · obtain ⟨T10, h10, X10, e10, E10, A10, D10, U10, st10⟩ := newO X0 hx hZ hown (ow42 hw) (ow43 hw) (ow38 hw) e0 (g := (mkF m 31 #[.val (.long q), .second, .val (.int (128 : Int32))] [])) rfl (hb hby d_jdk_35_method_24_code_31) (by decide) (by decide)
      obtain ⟨b10, g10⟩ : ∃ z, z = h0.size := ⟨_, rfl⟩
      rw [← g10] at A10 D10 U10 st10
      have gn10 : n0 ≤ b10 := Nat.le_trans (own_sz O0) (Nat.le_of_eq g10.symm)
      have sz10 : h0.size ≤ b10 := Nat.le_trans K0.1 (Nat.le_of_eq g10.symm)
      have O11 := O0.ext E10
      have K11 := K0.ext E10
      have Fvalue_10 : Fld Z h10 b10 "java/lang/Long" "value" "J" (.long (0 : Int64)) := D10 (Or.inr (ow56 hw)) (ty := .long) (by decide)
      obtain ⟨_, _, ⟨T12, L12, k12, n12⟩, -, X12, ⟨Lc12, hQ12, l12, y12, z12⟩, st12⟩ := X10.specialBack hx (y := (⟨"java/lang/Long", "<init>", "(J)V"⟩ : MethodName)) rfl hown (mvT hZ (ow44 hw)) (mvT hZ (ow45 hw)) (mvT hZ (ow47 hw)) (by decide) (backOf (W := 1) (rmlin l Z a0 hw [] b10 q  h10 n0 O11 A10 Fvalue_10 gn10) hZ (ow47 hw) (ow38 hw) (by decide) (by decide)) (g := (mkF m 36 #[.val (.long q), .second, .val (.int (128 : Int32))] [(.long q), (.ref b10), (.ref b10)])) rfl (by rw [hml]; rfl) (Steps.refl _) (a := b10) (argsL := [(.long q)]) (rest := [(.ref b10)]) (lenOf pd1 rfl) rfl (by show 2 * 0 + _ ≤ _; exact Nat.le_of_eq rfl) (hb hby d_jdk_35_method_24_code_36) (fun _ _ => ⟨rfl, e10, (by decide : 1 + 0 ≤ _), (by decide : 1 + 0 ≤ _)⟩)
      dsimp only [Pt.U, Pt.locs, Pt.cells, Pt.slots] at X12 l12 y12 z12 st12 hQ12
      subst l12 y12 z12
      obtain ⟨rfl, Nq12, kp12⟩ := hQ12
      have N13 := Fr.app N0 Nq12
      have O14 := O11.keep kp12 (allS gn10 all0)
      have K14 := K11.trans kp12 (allS (Or.inr sz10) all0)
      obtain ⟨fs, hretL, hrun, hended, hW, hsame⟩ := X12.leave (v := some (.ref b10)) (fun h => by rw [Bd.returns] at h; cases h)
      refine ⟨_, _, pre8 _ ?_, hrun, hended, _, _, rfl, ?_, ⟨_, rfl⟩, hW, hsame.mono (by decide) (by decide)⟩
      · refine XS.ifYes X0.here hx rfl (pc0 := 17) (pc' := 31) rfl (hb hby d_jdk_35_method_24_code_17) rfl ((if0 _ _).trans (tlt hc17_9).2.2.1) (by decide) (by decide) ?_
        show Steps p.tables e below (s₁.setTop (mkF m 31 #[.val (.long q), .second, .val (.int (128 : Int32))] [])) _
        refine st10 _ ?_
        show Steps p.tables e below (T10.setTop (mkF m 34 #[.val (.long q), .second, .val (.int (128 : Int32))] [(.ref b10)])) _
        refine XS.dup X10.here hx rfl (hb hby d_jdk_35_method_24_code_34) rfl rfl ?_
        show Steps p.tables e below (T10.setTop (mkF m 35 #[.val (.long q), .second, .val (.int (128 : Int32))] [(.ref b10), (.ref b10)])) _
        refine XS.lloadN X10.here hx rfl (hb hby d_jdk_35_method_24_code_35) rfl ?_
        show Steps p.tables e below (T10.setTop (mkF m 36 #[.val (.long q), .second, .val (.int (128 : Int32))] [(.long q), (.ref b10), (.ref b10)])) _
        refine st12.trans ?_
        show Steps p.tables e below (T12.setTop (mkF m 39 #[.val (.long q), .second, .val (.int (128 : Int32))] [(.ref b10)])) _
        exact retOut X12 hx Bd.returns rfl (Or.inr (Or.inr (Or.inr (Or.inr ⟨rfl, rfl, rfl⟩)))) (hb hby d_jdk_35_method_24_code_39) hretL
      · show Q_rmval Z q ac cl h0 n0 _ T12.heap _
        exact ⟨_, rfl, N13, K14⟩
    · obtain ⟨T15, X15, e15, st15⟩ := getS2 X0 hx hZ hown (host := "") (Or.inl (ow65 hw)) Via.refl e0 (Sc.ext O0.2) (g := (mkF m 20 #[.val (.long q), .second, .val (.int (128 : Int32))] [])) rfl (hb hby d_jdk_35_method_24_code_20)
      have ix16 := own_idx hc9_2 hc17_9
      obtain ⟨av16, hat16⟩ := hall _ ix16.2
      have hin16 : ¬ ((q.toInt32 + (128 : Int32)) < 0 ∨ cl.slots.size ≤ ((q.toInt32 + (128 : Int32))).toNatClampNeg) := fun q => q.elim ix16.1 (fun q => by rw [hsz] at q; exact absurd ix16.2 (Nat.not_lt.mpr q))
      have Ar16 := Ac.ext O0.2
      obtain ⟨fs, hretL, hrun, hended, hW, hsame⟩ := X15.leave (v := some (.ref av16)) (fun h => by rw [Bd.returns] at h; cases h)
      refine ⟨_, _, pre8 _ ?_, hrun, hended, _, _, rfl, ?_, ⟨_, rfl⟩, hW, hsame.mono (by decide) (by decide)⟩
      · refine XS.ifNo X0.here hx rfl (hb hby d_jdk_35_method_24_code_17) rfl ((if0 _ _).trans (flt hc17_9).2.2.1) ?_
        show Steps p.tables e below (s₁.setTop (mkF m 20 #[.val (.long q), .second, .val (.int (128 : Int32))] [])) _
        refine st15 _ ?_
        show Steps p.tables e below (T15.setTop (mkF m 23 #[.val (.long q), .second, .val (.int (128 : Int32))] [(.ref ac)])) _
        refine XS.lloadN X15.here hx rfl (hb hby d_jdk_35_method_24_code_23) rfl ?_
        show Steps p.tables e below (T15.setTop (mkF m 24 #[.val (.long q), .second, .val (.int (128 : Int32))] [(.long q), (.ref ac)])) _
        refine XS.l2i X15.here hx rfl (hb hby d_jdk_35_method_24_code_24) rfl ?_
        show Steps p.tables e below (T15.setTop (mkF m 25 #[.val (.long q), .second, .val (.int (128 : Int32))] [(.int q.toInt32), (.ref ac)])) _
        refine XS.sipush X15.here hx rfl (hb hby d_jdk_35_method_24_code_25) ?_
        show Steps p.tables e below (T15.setTop (mkF m 28 #[.val (.long q), .second, .val (.int (128 : Int32))] [(.int (128 : Int32)), (.int q.toInt32), (.ref ac)])) _
        refine XS.iadd X15.here hx rfl (hb hby d_jdk_35_method_24_code_28) rfl ?_
        show Steps p.tables e below (T15.setTop (mkF m 29 #[.val (.long q), .second, .val (.int (128 : Int32))] [(.int (q.toInt32 + (128 : Int32))), (.ref ac)])) _
        refine X15.aaload hx (j := (q.toInt32 + (128 : Int32))) (v := (.ref av16)) (by rw [e15]; exact Ar16.1) (State.isArrayOf_alike hZ.alike Ar16.2.1) rfl Ar16.2.2 hin16 hat16 (g := (mkF m 29 #[.val (.long q), .second, .val (.int (128 : Int32))] [(.int (q.toInt32 + (128 : Int32))), (.ref ac)])) rfl rfl (hb hby d_jdk_35_method_24_code_29) _ ?_
        show Steps p.tables e below (T15.setTop (mkF m 30 #[.val (.long q), .second, .val (.int (128 : Int32))] [(.ref av16)])) _
        exact retOut X15 hx Bd.returns rfl (Or.inr (Or.inr (Or.inr (Or.inr ⟨rfl, rfl, rfl⟩)))) (hb hby d_jdk_35_method_24_code_30) hretL
      · show Q_rmval Z q ac cl h0 n0 _ T15.heap _
        rw [e15]
        exact ⟨_, rfl, N0, K0⟩
theorem d_prog_8_method_1_code_0 : decode prog_8_method_1_code 0 = .ok (.aload_n 0, 1) := by decide +kernel
theorem d_prog_8_method_1_code_1 : decode prog_8_method_1_code 1 = .ok (.invokespecial 1, 3) := by decide +kernel
theorem d_prog_8_method_1_code_4 : decode prog_8_method_1_code 4 = .ok (.aload_n 0, 1) := by decide +kernel
theorem d_prog_8_method_1_code_5 : decode prog_8_method_1_code 5 = .ok (.aload_n 1, 1) := by decide +kernel
theorem d_prog_8_method_1_code_6 : decode prog_8_method_1_code 6 = .ok (.putfield 7, 3) := by decide +kernel
theorem d_prog_8_method_1_code_9 : decode prog_8_method_1_code 9 = .ok (.aload_n 0, 1) := by decide +kernel
theorem d_prog_8_method_1_code_10 : decode prog_8_method_1_code 10 = .ok (.lload_n 2, 1) := by decide +kernel
theorem d_prog_8_method_1_code_11 : decode prog_8_method_1_code 11 = .ok (.putfield 13, 3) := by decide +kernel
theorem d_prog_8_method_1_code_14 : decode prog_8_method_1_code 14 = .ok (.aload_n 0, 1) := by decide +kernel
theorem d_prog_8_method_1_code_15 : decode prog_8_method_1_code 15 = .ok (.aload 4, 2) := by decide +kernel
theorem d_prog_8_method_1_code_17 : decode prog_8_method_1_code 17 = .ok (.putfield 17, 3) := by decide +kernel
theorem d_prog_8_method_1_code_20 : decode prog_8_method_1_code 20 = .ok (.return_, 1) := by decide +kernel
def Q_rmdin (Z : State) (a : Addr) (r : Addr) (q : Int64) (lv : Value) (h0 : Heap) (n0 : Nat) (v : Option Value) (h : Heap) (L : List Loc) : Prop := v = none ∧ Fr n0 L ∧ Keep h0 h [a] ∧ Fld Z h a "com/example/tallyhouse/tallyhouse/GuardrailLimits$Decision" "reason" "Lcom/example/tallyhouse/tallyhouse/GuardrailLimits$Reason;" (.ref r)
theorem ef_rmdin (m : MethodId) (a : Addr) (r : Addr) (q : Int64) (lv : Value) (hlv : lv.isRef = true) : entryFrame m #[(.ref a), (.ref r), (.long q), lv] 5 = mkF m 0 #[.val (.ref a), .val (.ref r), .val (.long q), .second, .val lv] [] := by rcases ref_cases hlv with rfl | ⟨_, rfl⟩ <;> first | (simp [entryFrame, mkF, argsToLocals, Value.category]; done) | rfl
set_option maxRecDepth 65536 in
set_option maxHeartbeats 40000000 in
theorem rmdin (l : Launch) (Z : State) (a0 : Array Value) (hw : ∀ d ∈ tables_1, d.before a0 Z = true) (ws : List Jvm.Cond) (a : Addr) (r : Addr) (q : Int64) (lv : Value) (h0 : Heap) (n0 : Nat) (O0 : Old Z n0 h0) (hlv : lv.isRef = true) (Ea : Exa Z h0 a "com/example/tallyhouse/tallyhouse/GuardrailLimits$Decision") (F_reason : Fld Z h0 a "com/example/tallyhouse/tallyhouse/GuardrailLimits$Decision" "reason" "Lcom/example/tallyhouse/tallyhouse/GuardrailLimits$Reason;" .null) (F_used : Fld Z h0 a "com/example/tallyhouse/tallyhouse/GuardrailLimits$Decision" "used" "J" (.long (0 : Int64))) (F_limit : Fld Z h0 a "com/example/tallyhouse/tallyhouse/GuardrailLimits$Decision" "limit" "Ljava/lang/Long;" .null) (ga : n0 ≤ a) :
    MetFree l (⟨"com/example/tallyhouse/tallyhouse/GuardrailLimits$Decision", "<init>", "(Lcom/example/tallyhouse/tallyhouse/GuardrailLimits$Reason;JLjava/lang/Long;)V"⟩ : MethodName) (head1 (Jvm.Cond.code (⟨"com/example/tallyhouse/tallyhouse/GuardrailLimits$Decision", "<init>", "(Lcom/example/tallyhouse/tallyhouse/GuardrailLimits$Reason;JLjava/lang/Long;)V"⟩ : MethodName) prog_8_method_1_code 5 none :: ws) ({ frames := 2, cells := 0, slots := 0, locals := 24 } : Room)) (fun aa U => aa = #[(.ref a), (.ref r), (.long q), lv] ∧ Z.Warmed39 U.vm ∧ U.heap = h0) (fun _ _ _ _ _ => True) (fun _ U o U' => ∃ v L, o = .returned v ∧ Q_rmdin Z a r q lv h0 n0 v U'.heap L ∧ FrameEnd U o U' L ({ frames := 2, cells := 0, slots := 0, locals := 24 } : Room).cells ({ frames := 2, cells := 0, slots := 0, locals := 24 } : Room).slots) := by
  refine MetFree.of_bodySF (plainFor_of_name pn4) hisR ?_
  intro p e s m args below meth c s₁ Bd hml0 hP hK
  obtain ⟨rfl, hZ, hh⟩ := hP
  have hx := Bd.exec
  have hby := Bd.bytes
  have hml : c.maxLocals = 5 := hml0
  have hown : s.vm.findClass "com/example/tallyhouse/tallyhouse/GuardrailLimits$Decision" = some m.cls := findClass_of_methodNamed Bd.named
  have hnm := (name_of_methodNamed Bd.named Bd.method).1
  have X0 : Stand p l e ({ frames := 2, cells := 0, slots := 0, locals := 24 } : Room) s m #[(.ref a), (.ref r), (.long q), lv] below meth c s₁ [] 0 0 := Stand.of_body Bd
  have e0 : s₁.heap = h0 := by rw [← hh, Bd.state]; rfl
  have N0 := Fr.nil n0
  have K0 : Keep h0 h0 [a] := Keep.refl _ _
  have pre0 : ∀ tgt, Steps p.tables e below (s₁.setTop (mkF m 0 #[.val (.ref a), .val (.ref r), .val (.long q), .second, .val lv] [])) tgt → Steps p.tables e below (s₁.setTop (entryFrame m #[(.ref a), (.ref r), (.long q), lv] 5)) tgt := fun tgt kgo => castTop (ef_rmdin m a r q lv hlv) kgo
  obtain ⟨_, _, ⟨T1, L1, k1, n1⟩, -, X1, ⟨Lc1, hQ1, l1, y1, z1⟩, st1⟩ := X0.specialBack hx (y := (⟨"java/lang/Record", "<init>", "()V"⟩ : MethodName)) rfl hown (mvT hZ (ow14 hw)) (mvT hZ (ow15 hw)) (mvT hZ (ow18 hw)) (by decide) (backOf (W := 0) (rmrec l Z a0 hw [] a  h0 n0 O0 ) hZ (ow18 hw) (ow17 hw) (by decide) (by decide)) (g := (mkF m 1 #[.val (.ref a), .val (.ref r), .val (.long q), .second, .val lv] [(.ref a)])) rfl (by rw [hml]; rfl) (Steps.refl _) (a := a) (argsL := []) (rest := []) (lenOf pd0 rfl) rfl (by show 2 * 0 + _ ≤ _; exact Nat.le_of_eq rfl) (hb hby d_prog_8_method_1_code_1) (fun _ _ => ⟨rfl, e0, (by decide : 0 + 0 ≤ _), (by decide : 0 + 0 ≤ _)⟩)
  dsimp only [Pt.U, Pt.locs, Pt.cells, Pt.slots] at X1 l1 y1 z1 st1 hQ1
  subst l1 y1 z1
  obtain ⟨rfl, Nq1, eq1⟩ := hQ1
  have N2 := Fr.app N0 Nq1
  obtain ⟨T3, h3, X3, e3, W3, st3⟩ := putF X1 hx hZ hown (host := "") (Or.inl (ow22 hw)) Via.refl eq1 F_reason Ea (Or.inr ⟨(ow23 hw), rfl, hnm⟩) (ow9 hw) (ty := (.object "com/example/tallyhouse/tallyhouse/GuardrailLimits$Reason")) (by decide) rfl rfl (g := (mkF m 6 #[.val (.ref a), .val (.ref r), .val (.long q), .second, .val lv] [(.ref r), (.ref a)])) rfl rfl (hb hby d_prog_8_method_1_code_6)
  have Fw3 := F_reason.same W3
  have N4 := Fr.snoc X3 N2 ga
  have O4 := O0.wr W3 ga
  have K4 := K0.wr W3 (Or.inl (List.mem_of_getElem? (i := 0) rfl))
  have f5 := (Ea.wr W3)
  have f6 := (F_used.other W3 (Or.inr (slot_ne (Or.inr (ow25 hw)) (Or.inr (ow23 hw)) (by decide) (t := .long) (t' := (.object "com/example/tallyhouse/tallyhouse/GuardrailLimits$Reason")) (by decide) (by decide))))
  obtain ⟨T7, h7, X7, e7, W7, st7⟩ := putF X3 hx hZ hown (host := "") (Or.inl (ow24 hw)) Via.refl e3 f6 f5 (Or.inr ⟨(ow25 hw), rfl, hnm⟩) (ow9 hw) (ty := .long) (by decide) rfl rfl (g := (mkF m 11 #[.val (.ref a), .val (.ref r), .val (.long q), .second, .val lv] [(.long q), (.ref a)])) rfl rfl (hb hby d_prog_8_method_1_code_11)
  have Fw7 := f6.same W7
  have N8 := Fr.snoc X7 N4 ga
  have O8 := O4.wr W7 ga
  have K8 := K4.wr W7 (Or.inl (List.mem_of_getElem? (i := 0) rfl))
  have f9 := (f5.wr W7)
  have f10 := ((F_limit.other W3 (Or.inr (slot_ne (Or.inr (ow27 hw)) (Or.inr (ow23 hw)) (by decide) (t := (.object "java/lang/Long")) (t' := (.object "com/example/tallyhouse/tallyhouse/GuardrailLimits$Reason")) (by decide) (by decide)))).other W7 (Or.inr (slot_ne (Or.inr (ow27 hw)) (Or.inr (ow25 hw)) (by decide) (t := (.object "java/lang/Long")) (t' := .long) (by decide) (by decide))))
  obtain ⟨T11, h11, X11, e11, W11, st11⟩ := putF X7 hx hZ hown (host := "") (Or.inl (ow26 hw)) Via.refl e7 f10 f9 (Or.inr ⟨(ow27 hw), rfl, hnm⟩) (ow9 hw) (ty := (.object "java/lang/Long")) (by decide) (own_nref hlv) (own_fref hlv) (g := (mkF m 17 #[.val (.ref a), .val (.ref r), .val (.long q), .second, .val lv] [lv, (.ref a)])) rfl rfl (hb hby d_prog_8_method_1_code_17)
  have Fw11 := f10.same W11
  have N12 := Fr.snoc X11 N8 ga
  have O12 := O8.wr W11 ga
  have K12 := K8.wr W11 (Or.inl (List.mem_of_getElem? (i := 0) rfl))
  have f13 := ((Fw3.other W7 (Or.inr (slot_ne (Or.inr (ow23 hw)) (Or.inr (ow25 hw)) (by decide) (t := (.object "com/example/tallyhouse/tallyhouse/GuardrailLimits$Reason")) (t' := .long) (by decide) (by decide)))).other W11 (Or.inr (slot_ne (Or.inr (ow23 hw)) (Or.inr (ow27 hw)) (by decide) (t := (.object "com/example/tallyhouse/tallyhouse/GuardrailLimits$Reason")) (t' := (.object "java/lang/Long")) (by decide) (by decide))))
  obtain ⟨fs, hretL, hrun, hended, hW, hsame⟩ := X11.leave (v := none) (fun _ => rfl)
  refine ⟨_, _, pre0 _ ?_, hrun, hended, _, _, rfl, ?_, ⟨_, rfl⟩, hW, hsame.mono (by decide) (by decide)⟩
  · refine XS.aloadN X0.here hx rfl (hb hby d_prog_8_method_1_code_0) rfl rfl ?_
    show Steps p.tables e below (s₁.setTop (mkF m 1 #[.val (.ref a), .val (.ref r), .val (.long q), .second, .val lv] [(.ref a)])) _
    refine st1.trans ?_
    show Steps p.tables e below (T1.setTop (mkF m 4 #[.val (.ref a), .val (.ref r), .val (.long q), .second, .val lv] [])) _
    refine XS.aloadN X1.here hx rfl (hb hby d_prog_8_method_1_code_4) rfl rfl ?_
    show Steps p.tables e below (T1.setTop (mkF m 5 #[.val (.ref a), .val (.ref r), .val (.long q), .second, .val lv] [(.ref a)])) _
    refine XS.aloadN X1.here hx rfl (hb hby d_prog_8_method_1_code_5) rfl rfl ?_
    show Steps p.tables e below (T1.setTop (mkF m 6 #[.val (.ref a), .val (.ref r), .val (.long q), .second, .val lv] [(.ref r), (.ref a)])) _
    refine st3 _ ?_
    show Steps p.tables e below (T3.setTop (mkF m 9 #[.val (.ref a), .val (.ref r), .val (.long q), .second, .val lv] [])) _
    refine XS.aloadN X3.here hx rfl (hb hby d_prog_8_method_1_code_9) rfl rfl ?_
    show Steps p.tables e below (T3.setTop (mkF m 10 #[.val (.ref a), .val (.ref r), .val (.long q), .second, .val lv] [(.ref a)])) _
    refine XS.lloadN X3.here hx rfl (hb hby d_prog_8_method_1_code_10) rfl ?_
    show Steps p.tables e below (T3.setTop (mkF m 11 #[.val (.ref a), .val (.ref r), .val (.long q), .second, .val lv] [(.long q), (.ref a)])) _
    refine st7 _ ?_
    show Steps p.tables e below (T7.setTop (mkF m 14 #[.val (.ref a), .val (.ref r), .val (.long q), .second, .val lv] [])) _
    refine XS.aloadN X7.here hx rfl (hb hby d_prog_8_method_1_code_14) rfl rfl ?_
    show Steps p.tables e below (T7.setTop (mkF m 15 #[.val (.ref a), .val (.ref r), .val (.long q), .second, .val lv] [(.ref a)])) _
    refine XS.aload X7.here hx rfl (hb hby d_prog_8_method_1_code_15) rfl hlv ?_
    show Steps p.tables e below (T7.setTop (mkF m 17 #[.val (.ref a), .val (.ref r), .val (.long q), .second, .val lv] [lv, (.ref a)])) _
    refine st11 _ ?_
    show Steps p.tables e below (T11.setTop (mkF m 20 #[.val (.ref a), .val (.ref r), .val (.long q), .second, .val lv] [])) _
    exact X11.returnOut hx Bd.returns (hb hby d_prog_8_method_1_code_20) hretL
  · show Q_rmdin Z a r q lv h0 n0 _ T11.heap _
    rw [e11]
    exact ⟨rfl, N12, K12, f13⟩
def al (r w : Addr) : Int32 := if r = w then 1 else 0
theorem d_prog_8_method_2_code_0 : decode prog_8_method_2_code 0 = .ok (.aload_n 0, 1) := by decide +kernel
theorem d_prog_8_method_2_code_1 : decode prog_8_method_2_code 1 = .ok (.getfield 7, 3) := by decide +kernel
theorem d_prog_8_method_2_code_4 : decode prog_8_method_2_code 4 = .ok (.getstatic 21, 3) := by decide +kernel
theorem d_prog_8_method_2_code_7 : decode prog_8_method_2_code 7 = .ok (.if_acmp .ne 7, 3) := by decide +kernel
theorem d_prog_8_method_2_code_10 : decode prog_8_method_2_code 10 = .ok (.iconst 1, 1) := by decide +kernel
theorem d_prog_8_method_2_code_11 : decode prog_8_method_2_code 11 = .ok (.goto 4, 3) := by decide +kernel
theorem d_prog_8_method_2_code_14 : decode prog_8_method_2_code 14 = .ok (.iconst 0, 1) := by decide +kernel
theorem d_prog_8_method_2_code_15 : decode prog_8_method_2_code 15 = .ok (.ireturn, 1) := by decide +kernel
def Q_rmalw (Z : State) (a : Addr) (r : Addr) (w_OK : Addr) (h0 : Heap) (n0 : Nat) (v : Option Value) (h : Heap) (L : List Loc) : Prop := v = some (.int (al r w_OK)) ∧ Fr n0 L ∧ h = h0
theorem ef_rmalw (m : MethodId) (a : Addr) : entryFrame m #[(.ref a)] 1 = mkF m 0 #[.val (.ref a)] [] := by first | (simp [entryFrame, mkF, argsToLocals, Value.category]; done) | rfl
set_option maxRecDepth 65536 in
set_option maxHeartbeats 40000000 in
theorem rmalw (l : Launch) (Z : State) (a0 : Array Value) (hw : ∀ d ∈ tables_1, d.before a0 Z = true) (ws : List Jvm.Cond) (a : Addr) (r : Addr) (w_OK : Addr) (h0 : Heap) (n0 : Nat) (O0 : Old Z n0 h0) (S_OK : Sta Z Z.heap "com/example/tallyhouse/tallyhouse/GuardrailLimits$Reason" "OK" "Lcom/example/tallyhouse/tallyhouse/GuardrailLimits$Reason;" (.ref w_OK)) (Fre : Fld Z h0 a "com/example/tallyhouse/tallyhouse/GuardrailLimits$Decision" "reason" "Lcom/example/tallyhouse/tallyhouse/GuardrailLimits$Reason;" (.ref r)) :
    MetFree l (⟨"com/example/tallyhouse/tallyhouse/GuardrailLimits$Decision", "allowed", "()Z"⟩ : MethodName) (head1 (Jvm.Cond.code (⟨"com/example/tallyhouse/tallyhouse/GuardrailLimits$Decision", "allowed", "()Z"⟩ : MethodName) prog_8_method_2_code 1 (some .boolean) :: ws) ({ frames := 0, cells := 0, slots := 0, locals := 0 } : Room)) (fun aa U => aa = #[(.ref a)] ∧ Z.Warmed39 U.vm ∧ U.heap = h0) (fun _ _ _ _ _ => True) (fun _ U o U' => ∃ v L, o = .returned v ∧ Q_rmalw Z a r w_OK h0 n0 v U'.heap L ∧ FrameEnd U o U' L ({ frames := 0, cells := 0, slots := 0, locals := 0 } : Room).cells ({ frames := 0, cells := 0, slots := 0, locals := 0 } : Room).slots) := by
  refine MetFree.of_bodySF (plainFor_of_name pn4) hisR ?_
  intro p e s m args below meth c s₁ Bd hml0 hP hK
  obtain ⟨rfl, hZ, hh⟩ := hP
  have hx := Bd.exec
  have hby := Bd.bytes
  have hml : c.maxLocals = 1 := hml0
  have hown : s.vm.findClass "com/example/tallyhouse/tallyhouse/GuardrailLimits$Decision" = some m.cls := findClass_of_methodNamed Bd.named
  have hnm := (name_of_methodNamed Bd.named Bd.method).1
  have X0 : Stand p l e ({ frames := 0, cells := 0, slots := 0, locals := 0 } : Room) s m #[(.ref a)] below meth c s₁ [] 0 0 := Stand.of_body Bd
  have e0 : s₁.heap = h0 := by rw [← hh, Bd.state]; rfl
  have N0 := Fr.nil n0
  have K0 : Keep h0 h0 [] := Keep.refl _ _
  have pre0 : ∀ tgt, Steps p.tables e below (s₁.setTop (mkF m 0 #[.val (.ref a)] [])) tgt → Steps p.tables e below (s₁.setTop (entryFrame m #[(.ref a)] 1)) tgt := fun tgt kgo => castTop (ef_rmalw m a) kgo
  obtain ⟨T1, X1, e1, st1⟩ := getF X0 hx hZ hown (host := "") (Or.inl (ow22 hw)) Via.refl e0 Fre (g := (mkF m 1 #[.val (.ref a)] [(.ref a)])) rfl rfl (hb hby d_prog_8_method_2_code_1)
  obtain ⟨T2, X2, e2, st2⟩ := getS2 X1 hx hZ hown (host := "") (Or.inl (ow33 hw)) Via.refl e1 (S_OK.ext O0.2) (g := (mkF m 4 #[.val (.ref a)] [(.ref r)])) rfl (hb hby d_prog_8_method_2_code_4)
  have pre3 : ∀ tgt, Steps p.tables e below (T2.setTop (mkF m 7 #[.val (.ref a)] [(.ref w_OK), (.ref r)])) tgt → Steps p.tables e below (s₁.setTop (entryFrame m #[(.ref a)] 1)) tgt := by
    intro tgt kgo
    refine pre0 _ ?_
    refine XS.aloadN X0.here hx rfl (hb hby d_prog_8_method_2_code_0) rfl rfl ?_
    show Steps p.tables e below (s₁.setTop (mkF m 1 #[.val (.ref a)] [(.ref a)])) _
    refine st1 _ ?_
    show Steps p.tables e below (T1.setTop (mkF m 4 #[.val (.ref a)] [(.ref r)])) _
    refine st2 _ ?_
    show Steps p.tables e below (T2.setTop (mkF m 7 #[.val (.ref a)] [(.ref w_OK), (.ref r)])) _
    exact kgo
  by_cases hc7_4 : r = w_OK
  · obtain ⟨fs, hretL, hrun, hended, hW, hsame⟩ := X2.leave (v := some (.int (1 : Int32))) (fun h => by rw [Bd.returns] at h; cases h)
    refine ⟨_, _, pre3 _ ?_, hrun, hended, _, _, rfl, ?_, ⟨_, rfl⟩, hW, hsame.mono (by decide) (by decide)⟩
    · refine Jvm.RoadKit.acmp (g := (mkF m 7 #[.val (.ref a)] [(.ref w_OK), (.ref r)])) X2 hx rfl rfl rfl (pc0 := 7) (pc' := 10) (same := true) rfl (hb hby d_prog_8_method_2_code_7) rfl (decide_eq_true (congrArg Value.ref hc7_4)) (by decide) (by decide) ?_
      show Steps p.tables e below (T2.setTop (mkF m 10 #[.val (.ref a)] [])) _
      refine XS.iconst X2.here hx rfl (hb hby d_prog_8_method_2_code_10) ?_
      show Steps p.tables e below (T2.setTop (mkF m 11 #[.val (.ref a)] [(.int (1 : Int32))])) _
      refine XS.goto X2.here hx rfl (pc0 := 11) (pc' := 15) rfl (hb hby d_prog_8_method_2_code_11) (by decide) (by decide) ?_
      show Steps p.tables e below (T2.setTop (mkF m 15 #[.val (.ref a)] [(.int (1 : Int32))])) _
      exact retOut X2 hx Bd.returns rfl (Or.inl ⟨rfl, Or.inr (Or.inl rfl), _, rfl⟩) (hb hby d_prog_8_method_2_code_15) hretL
    · show Q_rmalw Z a r w_OK h0 n0 _ T2.heap _
      rw [e2]
      exact ⟨by simp only [al, if_pos hc7_4], N0, rfl⟩
  · obtain ⟨fs, hretL, hrun, hended, hW, hsame⟩ := X2.leave (v := some (.int (0 : Int32))) (fun h => by rw [Bd.returns] at h; cases h)
    refine ⟨_, _, pre3 _ ?_, hrun, hended, _, _, rfl, ?_, ⟨_, rfl⟩, hW, hsame.mono (by decide) (by decide)⟩
    · refine Jvm.RoadKit.acmp (g := (mkF m 7 #[.val (.ref a)] [(.ref w_OK), (.ref r)])) X2 hx rfl rfl rfl (pc0 := 7) (pc' := 14) (same := false) rfl (hb hby d_prog_8_method_2_code_7) rfl (decide_eq_false (fun q => hc7_4 (Value.ref.inj q))) (by decide) (by decide) ?_
      show Steps p.tables e below (T2.setTop (mkF m 14 #[.val (.ref a)] [])) _
      refine XS.iconst X2.here hx rfl (hb hby d_prog_8_method_2_code_14) ?_
      show Steps p.tables e below (T2.setTop (mkF m 15 #[.val (.ref a)] [(.int (0 : Int32))])) _
      exact retOut X2 hx Bd.returns rfl (Or.inl ⟨rfl, Or.inr (Or.inl rfl), _, rfl⟩) (hb hby d_prog_8_method_2_code_15) hretL
    · show Q_rmalw Z a r w_OK h0 n0 _ T2.heap _
      rw [e2]
      exact ⟨by simp only [al, if_neg hc7_4], N0, rfl⟩
theorem own_law {i x z : Int32} {w0 w1 w2 w3 w4 w5 w6 : Addr} (h : i = (x &&& (2147483647 : Int32)) % (7 : Int32)) (hz : z = (if i = (0 : Int32) then (1 : Int32) else (0 : Int32))) (n1 : w1 ≠ w0) (n2 : w2 ≠ w0) (n3 : w3 ≠ w0) (n4 : w4 ≠ w0) (n5 : w5 ≠ w0) (n6 : w6 ≠ w0) :
    al (pk i w0 w1 w2 w3 w4 w5 w6) w0 = z := by
  subst hz
  have hm := own_mod7 h
  clear h
  rcases hm with rfl | rfl | rfl | rfl | rfl | rfl | rfl <;> simp [pk, al, *]
def Q_rm0 (Z : State) (x0 : Int32) (x1 : Int64) (x2 : Int64) (x3 : Int32) (w_OK : Addr) (w_DAILY_PAYMENT_LIMIT : Addr) (w_DAILY_PLAY_LIMIT : Addr) (w_PAYMENT_NOT_ALLOWED : Addr) (w_SINGLE_PAYMENT_LIMIT : Addr) (w_MONTHLY_PAYMENT_LIMIT : Addr) (w_CURFEW : Addr) (ac : Addr) (cl : Cell) (h0 : Heap) (n0 : Nat) (v : Option Value) (h : Heap) (L : List Loc) : Prop := v = some (.int (1 : Int32)) ∧ Fr n0 L
theorem ef_rm0 (m : MethodId) (x0 : Int32) (x1 : Int64) (x2 : Int64) (x3 : Int32) : entryFrame m #[(.int x0), (.long x1), (.long x2), (.int x3)] maxLocals = mkF m 0 #[.val (.int x0), .val (.long x1), .second, .val (.long x2), .second, .val (.int x3), .unset, .unset, .unset, .unset, .unset] [] := by first | (simp [entryFrame, mkF, argsToLocals, Value.category, maxLocals]; done) | rfl
set_option maxRecDepth 65536 in
set_option maxHeartbeats 40000000 in
theorem rm0 (l : Launch) (Z : State) (a0 : Array Value) (hw : ∀ d ∈ tables_1, d.before a0 Z = true) (ws : List Jvm.Cond) (x0 : Int32) (x1 : Int64) (x2 : Int64) (x3 : Int32) (w_OK : Addr) (w_DAILY_PAYMENT_LIMIT : Addr) (w_DAILY_PLAY_LIMIT : Addr) (w_PAYMENT_NOT_ALLOWED : Addr) (w_SINGLE_PAYMENT_LIMIT : Addr) (w_MONTHLY_PAYMENT_LIMIT : Addr) (w_CURFEW : Addr) (ac : Addr) (cl : Cell) (h0 : Heap) (n0 : Nat) (O0 : Old Z n0 h0) (S_OK : Sta Z Z.heap "com/example/tallyhouse/tallyhouse/GuardrailLimits$Reason" "OK" "Lcom/example/tallyhouse/tallyhouse/GuardrailLimits$Reason;" (.ref w_OK)) (E_OK : Exa Z Z.heap w_OK "com/example/tallyhouse/tallyhouse/GuardrailLimits$Reason") (S_DAILY_PAYMENT_LIMIT : Sta Z Z.heap "com/example/tallyhouse/tallyhouse/GuardrailLimits$Reason" "DAILY_PAYMENT_LIMIT" "Lcom/example/tallyhouse/tallyhouse/GuardrailLimits$Reason;" (.ref w_DAILY_PAYMENT_LIMIT)) (E_DAILY_PAYMENT_LIMIT : Exa Z Z.heap w_DAILY_PAYMENT_LIMIT "com/example/tallyhouse/tallyhouse/GuardrailLimits$Reason") (S_DAILY_PLAY_LIMIT : Sta Z Z.heap "com/example/tallyhouse/tallyhouse/GuardrailLimits$Reason" "DAILY_PLAY_LIMIT" "Lcom/example/tallyhouse/tallyhouse/GuardrailLimits$Reason;" (.ref w_DAILY_PLAY_LIMIT)) (E_DAILY_PLAY_LIMIT : Exa Z Z.heap w_DAILY_PLAY_LIMIT "com/example/tallyhouse/tallyhouse/GuardrailLimits$Reason") (S_PAYMENT_NOT_ALLOWED : Sta Z Z.heap "com/example/tallyhouse/tallyhouse/GuardrailLimits$Reason" "PAYMENT_NOT_ALLOWED" "Lcom/example/tallyhouse/tallyhouse/GuardrailLimits$Reason;" (.ref w_PAYMENT_NOT_ALLOWED)) (E_PAYMENT_NOT_ALLOWED : Exa Z Z.heap w_PAYMENT_NOT_ALLOWED "com/example/tallyhouse/tallyhouse/GuardrailLimits$Reason") (S_SINGLE_PAYMENT_LIMIT : Sta Z Z.heap "com/example/tallyhouse/tallyhouse/GuardrailLimits$Reason" "SINGLE_PAYMENT_LIMIT" "Lcom/example/tallyhouse/tallyhouse/GuardrailLimits$Reason;" (.ref w_SINGLE_PAYMENT_LIMIT)) (E_SINGLE_PAYMENT_LIMIT : Exa Z Z.heap w_SINGLE_PAYMENT_LIMIT "com/example/tallyhouse/tallyhouse/GuardrailLimits$Reason") (S_MONTHLY_PAYMENT_LIMIT : Sta Z Z.heap "com/example/tallyhouse/tallyhouse/GuardrailLimits$Reason" "MONTHLY_PAYMENT_LIMIT" "Lcom/example/tallyhouse/tallyhouse/GuardrailLimits$Reason;" (.ref w_MONTHLY_PAYMENT_LIMIT)) (E_MONTHLY_PAYMENT_LIMIT : Exa Z Z.heap w_MONTHLY_PAYMENT_LIMIT "com/example/tallyhouse/tallyhouse/GuardrailLimits$Reason") (S_CURFEW : Sta Z Z.heap "com/example/tallyhouse/tallyhouse/GuardrailLimits$Reason" "CURFEW" "Lcom/example/tallyhouse/tallyhouse/GuardrailLimits$Reason;" (.ref w_CURFEW)) (E_CURFEW : Exa Z Z.heap w_CURFEW "com/example/tallyhouse/tallyhouse/GuardrailLimits$Reason") (F_DAILY_PAYMENT_LIMIT_ordinal : Fld Z Z.heap w_DAILY_PAYMENT_LIMIT "java/lang/Enum" "ordinal" "I" (.int (3 : Int32))) (F_OK_ordinal : Fld Z Z.heap w_OK "java/lang/Enum" "ordinal" "I" (.int (0 : Int32))) (F_DAILY_PLAY_LIMIT_ordinal : Fld Z Z.heap w_DAILY_PLAY_LIMIT "java/lang/Enum" "ordinal" "I" (.int (6 : Int32))) (F_PAYMENT_NOT_ALLOWED_ordinal : Fld Z Z.heap w_PAYMENT_NOT_ALLOWED "java/lang/Enum" "ordinal" "I" (.int (1 : Int32))) (F_SINGLE_PAYMENT_LIMIT_ordinal : Fld Z Z.heap w_SINGLE_PAYMENT_LIMIT "java/lang/Enum" "ordinal" "I" (.int (2 : Int32))) (F_MONTHLY_PAYMENT_LIMIT_ordinal : Fld Z Z.heap w_MONTHLY_PAYMENT_LIMIT "java/lang/Enum" "ordinal" "I" (.int (4 : Int32))) (F_CURFEW_ordinal : Fld Z Z.heap w_CURFEW "java/lang/Enum" "ordinal" "I" (.int (5 : Int32))) (Sc : Sta Z Z.heap "java/lang/Long$LongCache" "cache" "[Ljava/lang/Long;" (.ref ac)) (Ac : Arr Z Z.heap ac cl (.object "java/lang/Long")) (hsz : cl.slots.size = 256) (hall : ∀ j : Nat, j < 256 → ∃ b : Addr, cl.slots[j]? = some (.ref b)) :
    MetFree l x (head1 (Jvm.Cond.code x code maxLocals ret :: ws) room_1) (fun aa U => aa = #[(.int x0), (.long x1), (.long x2), (.int x3)] ∧ Z.Warmed39 U.vm ∧ U.heap = h0) (fun _ _ _ _ _ => True) (fun _ U o U' => ∃ v L, o = .returned v ∧ Q_rm0 Z x0 x1 x2 x3 w_OK w_DAILY_PAYMENT_LIMIT w_DAILY_PLAY_LIMIT w_PAYMENT_NOT_ALLOWED w_SINGLE_PAYMENT_LIMIT w_MONTHLY_PAYMENT_LIMIT w_CURFEW ac cl h0 n0 v U'.heap L ∧ FrameEnd U o U' L 2 4) := by
  refine MetFree.of_bodySF (plainFor_of_name pn0) hisR ?_
  intro p e s m args below meth c s₁ Bd hml0 hP hK
  obtain ⟨rfl, hZ, hh⟩ := hP
  have hx := Bd.exec
  have hby := Bd.bytes
  have hml : c.maxLocals = 11 := hml0
  have hown : s.vm.findClass "com/example/tallyhouse/tallyhouse/DecisionAllowedPinLaw" = some m.cls := findClass_of_methodNamed Bd.named
  have hnm := (name_of_methodNamed Bd.named Bd.method).1
  have X0 : Stand p l e room_1 s m #[(.int x0), (.long x1), (.long x2), (.int x3)] below meth c s₁ [] 0 0 := Stand.of_body Bd
  have e0 : s₁.heap = h0 := by rw [← hh, Bd.state]; rfl
  have N0 := Fr.nil n0
  have pre0 : ∀ tgt, Steps p.tables e below (s₁.setTop (mkF m 0 #[.val (.int x0), .val (.long x1), .second, .val (.long x2), .second, .val (.int x3), .unset, .unset, .unset, .unset, .unset] [])) tgt → Steps p.tables e below (s₁.setTop (entryFrame m #[(.int x0), (.long x1), (.long x2), (.int x3)] maxLocals)) tgt := fun tgt kgo => castTop (ef_rm0 m x0 x1 x2 x3) kgo
  have pre1 : ∀ tgt, Steps p.tables e below (s₁.setTop (mkF m 9 #[.val (.int x0), .val (.long x1), .second, .val (.long x2), .second, .val (.int x3), .val (.int ((x0 &&& (2147483647 : Int32)) % (7 : Int32))), .unset, .unset, .unset, .unset] [])) tgt → Steps p.tables e below (s₁.setTop (entryFrame m #[(.int x0), (.long x1), (.long x2), (.int x3)] maxLocals)) tgt := by
    intro tgt kgo
    refine pre0 _ ?_
    refine XS.iloadN X0.here hx rfl (hb hby at_0) rfl ?_
    show Steps p.tables e below (s₁.setTop (mkF m 1 #[.val (.int x0), .val (.long x1), .second, .val (.long x2), .second, .val (.int x3), .unset, .unset, .unset, .unset, .unset] [(.int x0)])) _
    refine X0.ldcI hx hown (mvT hZ (ow0 hw)) rfl (hb hby at_1) ?_
    show Steps p.tables e below (s₁.setTop (mkF m 3 #[.val (.int x0), .val (.long x1), .second, .val (.long x2), .second, .val (.int x3), .unset, .unset, .unset, .unset, .unset] [(.int (2147483647 : Int32)), (.int x0)])) _
    refine XS.iand X0.here hx rfl (hb hby at_3) rfl ?_
    show Steps p.tables e below (s₁.setTop (mkF m 4 #[.val (.int x0), .val (.long x1), .second, .val (.long x2), .second, .val (.int x3), .unset, .unset, .unset, .unset, .unset] [(.int (x0 &&& (2147483647 : Int32)))])) _
    refine XS.bipush X0.here hx rfl (hb hby at_4) ?_
    show Steps p.tables e below (s₁.setTop (mkF m 6 #[.val (.int x0), .val (.long x1), .second, .val (.long x2), .second, .val (.int x3), .unset, .unset, .unset, .unset, .unset] [(.int (7 : Int32)), (.int (x0 &&& (2147483647 : Int32)))])) _
    refine iremM (g := (mkF m 6 #[.val (.int x0), .val (.long x1), .second, .val (.long x2), .second, .val (.int x3), .unset, .unset, .unset, .unset, .unset] [(.int (7 : Int32)), (.int (x0 &&& (2147483647 : Int32)))])) X0 hx rfl (hb hby at_6) rfl (by decide) ?_
    show Steps p.tables e below (s₁.setTop (mkF m 7 #[.val (.int x0), .val (.long x1), .second, .val (.long x2), .second, .val (.int x3), .unset, .unset, .unset, .unset, .unset] [(.int ((x0 &&& (2147483647 : Int32)) % (7 : Int32)))])) _
    refine XS.istore X0.here hx rfl (hb hby at_7) rfl (l' := #[.val (.int x0), .val (.long x1), .second, .val (.long x2), .second, .val (.int x3), .val (.int ((x0 &&& (2147483647 : Int32)) % (7 : Int32))), .unset, .unset, .unset, .unset]) rfl ?_
    show Steps p.tables e below (s₁.setTop (mkF m 9 #[.val (.int x0), .val (.long x1), .second, .val (.long x2), .second, .val (.int x3), .val (.int ((x0 &&& (2147483647 : Int32)) % (7 : Int32))), .unset, .unset, .unset, .unset] [])) _
    exact kgo
  obtain ⟨i, hi⟩ : ∃ z, z = ((x0 &&& (2147483647 : Int32)) % (7 : Int32)) := ⟨_, rfl⟩
  have pre2 : ∀ tgt, Steps p.tables e below (s₁.setTop (mkF m 9 #[.val (.int x0), .val (.long x1), .second, .val (.long x2), .second, .val (.int x3), .val (.int i), .unset, .unset, .unset, .unset] [])) tgt → Steps p.tables e below (s₁.setTop (entryFrame m #[(.int x0), (.long x1), (.long x2), (.int x3)] maxLocals)) tgt := by
    rw [hi]; exact pre1
  obtain ⟨_, _, ⟨T3, L3, k3, n3⟩, -, X3, ⟨Lc3, hQ3, l3, y3, z3⟩, st3⟩ := Jvm.LawKit.callS X0 hx (y := (⟨"com/example/tallyhouse/tallyhouse/DecisionAllowedPinLaw", "pick", "(I)Lcom/example/tallyhouse/tallyhouse/GuardrailLimits$Reason;"⟩ : MethodName)) hown (mvT hZ (ow1 hw)) (mvT hZ (ow2 hw)) (mvT hZ (ow3 hw)) (mvT hZ (ow4 hw)) (by decide) (backOf (W := 0) (rmpick l Z a0 hw [] i w_OK w_PAYMENT_NOT_ALLOWED w_SINGLE_PAYMENT_LIMIT w_DAILY_PAYMENT_LIMIT w_MONTHLY_PAYMENT_LIMIT w_CURFEW w_DAILY_PLAY_LIMIT h0 n0 O0 S_OK S_PAYMENT_NOT_ALLOWED S_SINGLE_PAYMENT_LIMIT S_DAILY_PAYMENT_LIMIT S_MONTHLY_PAYMENT_LIMIT S_CURFEW S_DAILY_PLAY_LIMIT) hZ (ow4 hw) (ow3 hw) (by decide) (by decide)) (g := (mkF m 11 #[.val (.int x0), .val (.long x1), .second, .val (.long x2), .second, .val (.int x3), .val (.int i), .unset, .unset, .unset, .unset] [(.int i)])) rfl (by rw [hml]; rfl) (argsL := [(.int i)]) (rest := []) (lenOf pd2 rfl) rfl (by show 2 * 0 + _ ≤ _; exact Nat.le_of_eq rfl) (hb hby at_11) (fun _ _ => ⟨rfl, e0, (by decide : 0 + 0 ≤ _), (by decide : 0 + 0 ≤ _)⟩)
  dsimp only [Pt.U, Pt.locs, Pt.cells, Pt.slots] at X3 l3 y3 z3 st3 hQ3
  subst l3 y3 z3
  obtain ⟨rfl, Nq3, eq3⟩ := hQ3
  have N4 := Fr.app N0 Nq3
  have pre5 : ∀ tgt, Steps p.tables e below (T3.setTop (mkF m 20 #[.val (.int x0), .val (.long x1), .second, .val (.long x2), .second, .val (.int x3), .val (.int i), .val (.ref (pk i w_OK w_PAYMENT_NOT_ALLOWED w_SINGLE_PAYMENT_LIMIT w_DAILY_PAYMENT_LIMIT w_MONTHLY_PAYMENT_LIMIT w_CURFEW w_DAILY_PLAY_LIMIT)), .unset, .unset, .unset] [(.int (x3 &&& (1 : Int32)))])) tgt → Steps p.tables e below (s₁.setTop (entryFrame m #[(.int x0), (.long x1), (.long x2), (.int x3)] maxLocals)) tgt := by
    intro tgt kgo
    refine pre2 _ ?_
    refine XS.iload X0.here hx rfl (hb hby at_9) rfl ?_
    show Steps p.tables e below (s₁.setTop (mkF m 11 #[.val (.int x0), .val (.long x1), .second, .val (.long x2), .second, .val (.int x3), .val (.int i), .unset, .unset, .unset, .unset] [(.int i)])) _
    refine st3 _ ?_
    show Steps p.tables e below (T3.setTop (mkF m 14 #[.val (.int x0), .val (.long x1), .second, .val (.long x2), .second, .val (.int x3), .val (.int i), .unset, .unset, .unset, .unset] [(.ref (pk i w_OK w_PAYMENT_NOT_ALLOWED w_SINGLE_PAYMENT_LIMIT w_DAILY_PAYMENT_LIMIT w_MONTHLY_PAYMENT_LIMIT w_CURFEW w_DAILY_PLAY_LIMIT))])) _
    refine XS.astore X3.here hx rfl (hb hby at_14) rfl rfl (l' := #[.val (.int x0), .val (.long x1), .second, .val (.long x2), .second, .val (.int x3), .val (.int i), .val (.ref (pk i w_OK w_PAYMENT_NOT_ALLOWED w_SINGLE_PAYMENT_LIMIT w_DAILY_PAYMENT_LIMIT w_MONTHLY_PAYMENT_LIMIT w_CURFEW w_DAILY_PLAY_LIMIT)), .unset, .unset, .unset]) rfl ?_
    show Steps p.tables e below (T3.setTop (mkF m 16 #[.val (.int x0), .val (.long x1), .second, .val (.long x2), .second, .val (.int x3), .val (.int i), .val (.ref (pk i w_OK w_PAYMENT_NOT_ALLOWED w_SINGLE_PAYMENT_LIMIT w_DAILY_PAYMENT_LIMIT w_MONTHLY_PAYMENT_LIMIT w_CURFEW w_DAILY_PLAY_LIMIT)), .unset, .unset, .unset] [])) _
    refine XS.iload X3.here hx rfl (hb hby at_16) rfl ?_
    show Steps p.tables e below (T3.setTop (mkF m 18 #[.val (.int x0), .val (.long x1), .second, .val (.long x2), .second, .val (.int x3), .val (.int i), .val (.ref (pk i w_OK w_PAYMENT_NOT_ALLOWED w_SINGLE_PAYMENT_LIMIT w_DAILY_PAYMENT_LIMIT w_MONTHLY_PAYMENT_LIMIT w_CURFEW w_DAILY_PLAY_LIMIT)), .unset, .unset, .unset] [(.int x3)])) _
    refine XS.iconst X3.here hx rfl (hb hby at_18) ?_
    show Steps p.tables e below (T3.setTop (mkF m 19 #[.val (.int x0), .val (.long x1), .second, .val (.long x2), .second, .val (.int x3), .val (.int i), .val (.ref (pk i w_OK w_PAYMENT_NOT_ALLOWED w_SINGLE_PAYMENT_LIMIT w_DAILY_PAYMENT_LIMIT w_MONTHLY_PAYMENT_LIMIT w_CURFEW w_DAILY_PLAY_LIMIT)), .unset, .unset, .unset] [(.int (1 : Int32)), (.int x3)])) _
    refine XS.iand X3.here hx rfl (hb hby at_19) rfl ?_
    show Steps p.tables e below (T3.setTop (mkF m 20 #[.val (.int x0), .val (.long x1), .second, .val (.long x2), .second, .val (.int x3), .val (.int i), .val (.ref (pk i w_OK w_PAYMENT_NOT_ALLOWED w_SINGLE_PAYMENT_LIMIT w_DAILY_PAYMENT_LIMIT w_MONTHLY_PAYMENT_LIMIT w_CURFEW w_DAILY_PLAY_LIMIT)), .unset, .unset, .unset] [(.int (x3 &&& (1 : Int32)))])) _
    exact kgo
  by_cases hc20_6 : (x3 &&& (1 : Int32)) = (0 : Int32)
  · obtain ⟨T7, h7, X7, e7, E7, A7, D7, U7, st7⟩ := newO X3 hx hZ hown (ow8 hw) (ow9 hw) (ow10 hw) eq3 (g := (mkF m 33 #[.val (.int x0), .val (.long x1), .second, .val (.long x2), .second, .val (.int x3), .val (.int i), .val (.ref (pk i w_OK w_PAYMENT_NOT_ALLOWED w_SINGLE_PAYMENT_LIMIT w_DAILY_PAYMENT_LIMIT w_MONTHLY_PAYMENT_LIMIT w_CURFEW w_DAILY_PLAY_LIMIT)), .val .null, .unset, .unset] [])) rfl (hb hby at_33) (by decide) (by decide)
    obtain ⟨b7, g7⟩ : ∃ z, z = h0.size := ⟨_, rfl⟩
    rw [← g7] at A7 D7 U7 st7
    have gn7 : n0 ≤ b7 := Nat.le_trans (own_sz O0) (Nat.le_of_eq g7.symm)
    have O8 := O0.ext E7
    have Freason_7 : Fld Z h7 b7 "com/example/tallyhouse/tallyhouse/GuardrailLimits$Decision" "reason" "Lcom/example/tallyhouse/tallyhouse/GuardrailLimits$Reason;" .null := D7 (Or.inr (ow23 hw)) (ty := (.object "com/example/tallyhouse/tallyhouse/GuardrailLimits$Reason")) (by decide)
    have Fused_7 : Fld Z h7 b7 "com/example/tallyhouse/tallyhouse/GuardrailLimits$Decision" "used" "J" (.long (0 : Int64)) := D7 (Or.inr (ow25 hw)) (ty := .long) (by decide)
    have Flimit_7 : Fld Z h7 b7 "com/example/tallyhouse/tallyhouse/GuardrailLimits$Decision" "limit" "Ljava/lang/Long;" .null := D7 (Or.inr (ow27 hw)) (ty := (.object "java/lang/Long")) (by decide)
    obtain ⟨_, _, ⟨T9, L9, k9, n9⟩, -, X9, ⟨Lc9, hQ9, l9, y9, z9⟩, st9⟩ := X7.specialBack hx (y := (⟨"com/example/tallyhouse/tallyhouse/GuardrailLimits$Decision", "<init>", "(Lcom/example/tallyhouse/tallyhouse/GuardrailLimits$Reason;JLjava/lang/Long;)V"⟩ : MethodName)) rfl hown (mvT hZ (ow11 hw)) (mvT hZ (ow12 hw)) (mvT hZ (ow13 hw)) (by decide) (backOf (W := 1) (rmdin l Z a0 hw [] b7 (pk i w_OK w_PAYMENT_NOT_ALLOWED w_SINGLE_PAYMENT_LIMIT w_DAILY_PAYMENT_LIMIT w_MONTHLY_PAYMENT_LIMIT w_CURFEW w_DAILY_PLAY_LIMIT) x1 .null  h7 n0 O8 rfl A7 Freason_7 Fused_7 Flimit_7 gn7) hZ (ow13 hw) (ow10 hw) (by decide) (by decide)) (g := (mkF m 42 #[.val (.int x0), .val (.long x1), .second, .val (.long x2), .second, .val (.int x3), .val (.int i), .val (.ref (pk i w_OK w_PAYMENT_NOT_ALLOWED w_SINGLE_PAYMENT_LIMIT w_DAILY_PAYMENT_LIMIT w_MONTHLY_PAYMENT_LIMIT w_CURFEW w_DAILY_PLAY_LIMIT)), .val .null, .unset, .unset] [.null, (.long x1), (.ref (pk i w_OK w_PAYMENT_NOT_ALLOWED w_SINGLE_PAYMENT_LIMIT w_DAILY_PAYMENT_LIMIT w_MONTHLY_PAYMENT_LIMIT w_CURFEW w_DAILY_PLAY_LIMIT)), (.ref b7), (.ref b7)])) rfl (by rw [hml]; rfl) (Steps.refl _) (a := b7) (argsL := [(.ref (pk i w_OK w_PAYMENT_NOT_ALLOWED w_SINGLE_PAYMENT_LIMIT w_DAILY_PAYMENT_LIMIT w_MONTHLY_PAYMENT_LIMIT w_CURFEW w_DAILY_PLAY_LIMIT)), (.long x1), .null]) (rest := [(.ref b7)]) (lenOf pd3 rfl) rfl (by show 2 * 0 + _ ≤ _; exact Nat.le_of_eq rfl) (hb hby at_42) (fun _ _ => ⟨rfl, e7, (by decide : 1 + 0 ≤ _), (by decide : 3 + 0 ≤ _)⟩)
    dsimp only [Pt.U, Pt.locs, Pt.cells, Pt.slots] at X9 l9 y9 z9 st9 hQ9
    subst l9 y9 z9
    obtain ⟨rfl, Nq9, kp9, Fre9⟩ := hQ9
    have N10 := Fr.app N4 Nq9
    have O11 := O8.keep kp9 (allS gn7 all0)
    have pre12 : ∀ tgt, Steps p.tables e below (T9.setTop (mkF m 49 #[.val (.int x0), .val (.long x1), .second, .val (.long x2), .second, .val (.int x3), .val (.int i), .val (.ref (pk i w_OK w_PAYMENT_NOT_ALLOWED w_SINGLE_PAYMENT_LIMIT w_DAILY_PAYMENT_LIMIT w_MONTHLY_PAYMENT_LIMIT w_CURFEW w_DAILY_PLAY_LIMIT)), .val .null, .val (.ref b7), .unset] [(.int i)])) tgt → Steps p.tables e below (s₁.setTop (entryFrame m #[(.int x0), (.long x1), (.long x2), (.int x3)] maxLocals)) tgt := by
      intro tgt kgo
      refine pre5 _ ?_
      refine XS.ifYes X3.here hx rfl (pc0 := 20) (pc' := 30) rfl (hb hby at_20) rfl ((if0 _ _).trans (teq hc20_6).1) (by decide) (by decide) ?_
      show Steps p.tables e below (T3.setTop (mkF m 30 #[.val (.int x0), .val (.long x1), .second, .val (.long x2), .second, .val (.int x3), .val (.int i), .val (.ref (pk i w_OK w_PAYMENT_NOT_ALLOWED w_SINGLE_PAYMENT_LIMIT w_DAILY_PAYMENT_LIMIT w_MONTHLY_PAYMENT_LIMIT w_CURFEW w_DAILY_PLAY_LIMIT)), .unset, .unset, .unset] [])) _
      refine XS.aconstNull X3.here hx rfl (hb hby at_30) ?_
      show Steps p.tables e below (T3.setTop (mkF m 31 #[.val (.int x0), .val (.long x1), .second, .val (.long x2), .second, .val (.int x3), .val (.int i), .val (.ref (pk i w_OK w_PAYMENT_NOT_ALLOWED w_SINGLE_PAYMENT_LIMIT w_DAILY_PAYMENT_LIMIT w_MONTHLY_PAYMENT_LIMIT w_CURFEW w_DAILY_PLAY_LIMIT)), .unset, .unset, .unset] [.null])) _
      refine XS.astore X3.here hx rfl (hb hby at_31) rfl rfl (l' := #[.val (.int x0), .val (.long x1), .second, .val (.long x2), .second, .val (.int x3), .val (.int i), .val (.ref (pk i w_OK w_PAYMENT_NOT_ALLOWED w_SINGLE_PAYMENT_LIMIT w_DAILY_PAYMENT_LIMIT w_MONTHLY_PAYMENT_LIMIT w_CURFEW w_DAILY_PLAY_LIMIT)), .val .null, .unset, .unset]) rfl ?_
      show Steps p.tables e below (T3.setTop (mkF m 33 #[.val (.int x0), .val (.long x1), .second, .val (.long x2), .second, .val (.int x3), .val (.int i), .val (.ref (pk i w_OK w_PAYMENT_NOT_ALLOWED w_SINGLE_PAYMENT_LIMIT w_DAILY_PAYMENT_LIMIT w_MONTHLY_PAYMENT_LIMIT w_CURFEW w_DAILY_PLAY_LIMIT)), .val .null, .unset, .unset] [])) _
      refine st7 _ ?_
      show Steps p.tables e below (T7.setTop (mkF m 36 #[.val (.int x0), .val (.long x1), .second, .val (.long x2), .second, .val (.int x3), .val (.int i), .val (.ref (pk i w_OK w_PAYMENT_NOT_ALLOWED w_SINGLE_PAYMENT_LIMIT w_DAILY_PAYMENT_LIMIT w_MONTHLY_PAYMENT_LIMIT w_CURFEW w_DAILY_PLAY_LIMIT)), .val .null, .unset, .unset] [(.ref b7)])) _
      refine XS.dup X7.here hx rfl (hb hby at_36) rfl rfl ?_
      show Steps p.tables e below (T7.setTop (mkF m 37 #[.val (.int x0), .val (.long x1), .second, .val (.long x2), .second, .val (.int x3), .val (.int i), .val (.ref (pk i w_OK w_PAYMENT_NOT_ALLOWED w_SINGLE_PAYMENT_LIMIT w_DAILY_PAYMENT_LIMIT w_MONTHLY_PAYMENT_LIMIT w_CURFEW w_DAILY_PLAY_LIMIT)), .val .null, .unset, .unset] [(.ref b7), (.ref b7)])) _
      refine XS.aload X7.here hx rfl (hb hby at_37) rfl rfl ?_
      show Steps p.tables e below (T7.setTop (mkF m 39 #[.val (.int x0), .val (.long x1), .second, .val (.long x2), .second, .val (.int x3), .val (.int i), .val (.ref (pk i w_OK w_PAYMENT_NOT_ALLOWED w_SINGLE_PAYMENT_LIMIT w_DAILY_PAYMENT_LIMIT w_MONTHLY_PAYMENT_LIMIT w_CURFEW w_DAILY_PLAY_LIMIT)), .val .null, .unset, .unset] [(.ref (pk i w_OK w_PAYMENT_NOT_ALLOWED w_SINGLE_PAYMENT_LIMIT w_DAILY_PAYMENT_LIMIT w_MONTHLY_PAYMENT_LIMIT w_CURFEW w_DAILY_PLAY_LIMIT)), (.ref b7), (.ref b7)])) _
      refine XS.lloadN X7.here hx rfl (hb hby at_39) rfl ?_
      show Steps p.tables e below (T7.setTop (mkF m 40 #[.val (.int x0), .val (.long x1), .second, .val (.long x2), .second, .val (.int x3), .val (.int i), .val (.ref (pk i w_OK w_PAYMENT_NOT_ALLOWED w_SINGLE_PAYMENT_LIMIT w_DAILY_PAYMENT_LIMIT w_MONTHLY_PAYMENT_LIMIT w_CURFEW w_DAILY_PLAY_LIMIT)), .val .null, .unset, .unset] [(.long x1), (.ref (pk i w_OK w_PAYMENT_NOT_ALLOWED w_SINGLE_PAYMENT_LIMIT w_DAILY_PAYMENT_LIMIT w_MONTHLY_PAYMENT_LIMIT w_CURFEW w_DAILY_PLAY_LIMIT)), (.ref b7), (.ref b7)])) _
      refine XS.aload X7.here hx rfl (hb hby at_40) rfl rfl ?_
      show Steps p.tables e below (T7.setTop (mkF m 42 #[.val (.int x0), .val (.long x1), .second, .val (.long x2), .second, .val (.int x3), .val (.int i), .val (.ref (pk i w_OK w_PAYMENT_NOT_ALLOWED w_SINGLE_PAYMENT_LIMIT w_DAILY_PAYMENT_LIMIT w_MONTHLY_PAYMENT_LIMIT w_CURFEW w_DAILY_PLAY_LIMIT)), .val .null, .unset, .unset] [.null, (.long x1), (.ref (pk i w_OK w_PAYMENT_NOT_ALLOWED w_SINGLE_PAYMENT_LIMIT w_DAILY_PAYMENT_LIMIT w_MONTHLY_PAYMENT_LIMIT w_CURFEW w_DAILY_PLAY_LIMIT)), (.ref b7), (.ref b7)])) _
      refine st9.trans ?_
      show Steps p.tables e below (T9.setTop (mkF m 45 #[.val (.int x0), .val (.long x1), .second, .val (.long x2), .second, .val (.int x3), .val (.int i), .val (.ref (pk i w_OK w_PAYMENT_NOT_ALLOWED w_SINGLE_PAYMENT_LIMIT w_DAILY_PAYMENT_LIMIT w_MONTHLY_PAYMENT_LIMIT w_CURFEW w_DAILY_PLAY_LIMIT)), .val .null, .unset, .unset] [(.ref b7)])) _
      refine XS.astore X9.here hx rfl (hb hby at_45) rfl rfl (l' := #[.val (.int x0), .val (.long x1), .second, .val (.long x2), .second, .val (.int x3), .val (.int i), .val (.ref (pk i w_OK w_PAYMENT_NOT_ALLOWED w_SINGLE_PAYMENT_LIMIT w_DAILY_PAYMENT_LIMIT w_MONTHLY_PAYMENT_LIMIT w_CURFEW w_DAILY_PLAY_LIMIT)), .val .null, .val (.ref b7), .unset]) rfl ?_
      show Steps p.tables e below (T9.setTop (mkF m 47 #[.val (.int x0), .val (.long x1), .second, .val (.long x2), .second, .val (.int x3), .val (.int i), .val (.ref (pk i w_OK w_PAYMENT_NOT_ALLOWED w_SINGLE_PAYMENT_LIMIT w_DAILY_PAYMENT_LIMIT w_MONTHLY_PAYMENT_LIMIT w_CURFEW w_DAILY_PLAY_LIMIT)), .val .null, .val (.ref b7), .unset] [])) _
      refine XS.iload X9.here hx rfl (hb hby at_47) rfl ?_
      show Steps p.tables e below (T9.setTop (mkF m 49 #[.val (.int x0), .val (.long x1), .second, .val (.long x2), .second, .val (.int x3), .val (.int i), .val (.ref (pk i w_OK w_PAYMENT_NOT_ALLOWED w_SINGLE_PAYMENT_LIMIT w_DAILY_PAYMENT_LIMIT w_MONTHLY_PAYMENT_LIMIT w_CURFEW w_DAILY_PLAY_LIMIT)), .val .null, .val (.ref b7), .unset] [(.int i)])) _
      exact kgo
    obtain ⟨T13, lo13, z, X13, e13, N13, hz, pre13⟩ : ∃ (T' : State) (lo13 : List Loc) (z : Int32), Stand p l e room_1 s m #[(.int x0), (.long x1), (.long x2), (.int x3)] below meth c T' lo13 1 3 ∧ T'.heap = T9.heap ∧ Fr n0 lo13 ∧ z = (if i = (0 : Int32) then (1 : Int32) else (0 : Int32)) ∧ ∀ tgt, Steps p.tables e below (T'.setTop (mkF m 57 #[.val (.int x0), .val (.long x1), .second, .val (.long x2), .second, .val (.int x3), .val (.int i), .val (.ref (pk i w_OK w_PAYMENT_NOT_ALLOWED w_SINGLE_PAYMENT_LIMIT w_DAILY_PAYMENT_LIMIT w_MONTHLY_PAYMENT_LIMIT w_CURFEW w_DAILY_PLAY_LIMIT)), .val .null, .val (.ref b7), .unset] [(.int z)])) tgt → Steps p.tables e below (s₁.setTop (entryFrame m #[(.int x0), (.long x1), (.long x2), (.int x3)] maxLocals)) tgt := by
      by_cases hc49_14 : i = (0 : Int32)
      · have pre15 : ∀ tgt, Steps p.tables e below (T9.setTop (mkF m 57 #[.val (.int x0), .val (.long x1), .second, .val (.long x2), .second, .val (.int x3), .val (.int i), .val (.ref (pk i w_OK w_PAYMENT_NOT_ALLOWED w_SINGLE_PAYMENT_LIMIT w_DAILY_PAYMENT_LIMIT w_MONTHLY_PAYMENT_LIMIT w_CURFEW w_DAILY_PLAY_LIMIT)), .val .null, .val (.ref b7), .unset] [(.int (1 : Int32))])) tgt → Steps p.tables e below (s₁.setTop (entryFrame m #[(.int x0), (.long x1), (.long x2), (.int x3)] maxLocals)) tgt := by
          intro tgt kgo
          refine pre12 _ ?_
          refine XS.ifNo X9.here hx rfl (hb hby at_49) rfl ((if0 _ _).trans (teq hc49_14).2) ?_
          show Steps p.tables e below (T9.setTop (mkF m 52 #[.val (.int x0), .val (.long x1), .second, .val (.long x2), .second, .val (.int x3), .val (.int i), .val (.ref (pk i w_OK w_PAYMENT_NOT_ALLOWED w_SINGLE_PAYMENT_LIMIT w_DAILY_PAYMENT_LIMIT w_MONTHLY_PAYMENT_LIMIT w_CURFEW w_DAILY_PLAY_LIMIT)), .val .null, .val (.ref b7), .unset] [])) _
          refine XS.iconst X9.here hx rfl (hb hby at_52) ?_
          show Steps p.tables e below (T9.setTop (mkF m 53 #[.val (.int x0), .val (.long x1), .second, .val (.long x2), .second, .val (.int x3), .val (.int i), .val (.ref (pk i w_OK w_PAYMENT_NOT_ALLOWED w_SINGLE_PAYMENT_LIMIT w_DAILY_PAYMENT_LIMIT w_MONTHLY_PAYMENT_LIMIT w_CURFEW w_DAILY_PLAY_LIMIT)), .val .null, .val (.ref b7), .unset] [(.int (1 : Int32))])) _
          refine XS.goto X9.here hx rfl (pc0 := 53) (pc' := 57) rfl (hb hby at_53) (by decide) (by decide) ?_
          show Steps p.tables e below (T9.setTop (mkF m 57 #[.val (.int x0), .val (.long x1), .second, .val (.long x2), .second, .val (.int x3), .val (.int i), .val (.ref (pk i w_OK w_PAYMENT_NOT_ALLOWED w_SINGLE_PAYMENT_LIMIT w_DAILY_PAYMENT_LIMIT w_MONTHLY_PAYMENT_LIMIT w_CURFEW w_DAILY_PLAY_LIMIT)), .val .null, .val (.ref b7), .unset] [(.int (1 : Int32))])) _
          exact kgo
        exact ⟨T9, _, (1 : Int32), X9, rfl, N10, (by simp only [if_pos hc49_14]), pre15⟩
      · have pre16 : ∀ tgt, Steps p.tables e below (T9.setTop (mkF m 57 #[.val (.int x0), .val (.long x1), .second, .val (.long x2), .second, .val (.int x3), .val (.int i), .val (.ref (pk i w_OK w_PAYMENT_NOT_ALLOWED w_SINGLE_PAYMENT_LIMIT w_DAILY_PAYMENT_LIMIT w_MONTHLY_PAYMENT_LIMIT w_CURFEW w_DAILY_PLAY_LIMIT)), .val .null, .val (.ref b7), .unset] [(.int (0 : Int32))])) tgt → Steps p.tables e below (s₁.setTop (entryFrame m #[(.int x0), (.long x1), (.long x2), (.int x3)] maxLocals)) tgt := by
          intro tgt kgo
          refine pre12 _ ?_
          refine XS.ifYes X9.here hx rfl (pc0 := 49) (pc' := 56) rfl (hb hby at_49) rfl ((if0 _ _).trans (feq hc49_14).2) (by decide) (by decide) ?_
          show Steps p.tables e below (T9.setTop (mkF m 56 #[.val (.int x0), .val (.long x1), .second, .val (.long x2), .second, .val (.int x3), .val (.int i), .val (.ref (pk i w_OK w_PAYMENT_NOT_ALLOWED w_SINGLE_PAYMENT_LIMIT w_DAILY_PAYMENT_LIMIT w_MONTHLY_PAYMENT_LIMIT w_CURFEW w_DAILY_PLAY_LIMIT)), .val .null, .val (.ref b7), .unset] [])) _
          refine XS.iconst X9.here hx rfl (hb hby at_56) ?_
          show Steps p.tables e below (T9.setTop (mkF m 57 #[.val (.int x0), .val (.long x1), .second, .val (.long x2), .second, .val (.int x3), .val (.int i), .val (.ref (pk i w_OK w_PAYMENT_NOT_ALLOWED w_SINGLE_PAYMENT_LIMIT w_DAILY_PAYMENT_LIMIT w_MONTHLY_PAYMENT_LIMIT w_CURFEW w_DAILY_PLAY_LIMIT)), .val .null, .val (.ref b7), .unset] [(.int (0 : Int32))])) _
          exact kgo
        exact ⟨T9, _, (0 : Int32), X9, rfl, N10, (by simp only [if_neg hc49_14]), pre16⟩
    have f18 := (A7.keep kp9)
    obtain ⟨cq17, kq17, q17a, q17b, q17c⟩ := isOf hZ e13 f18
    obtain ⟨_, _, ⟨T17, L17, k17, n17⟩, -, X17, ⟨Lc17, hQ17, l17, y17, z17⟩, st17⟩ := X13.virtualBack hx (y := (⟨"com/example/tallyhouse/tallyhouse/GuardrailLimits$Decision", "allowed", "()Z"⟩ : MethodName)) (z := (⟨"com/example/tallyhouse/tallyhouse/GuardrailLimits$Decision", "allowed", "()Z"⟩ : MethodName)) hown (mvT hZ (ow28 hw)) (mvT hZ (ow29 hw)) (notFace_of_selects (args := #[]) (mvT hZ (ow31 hw))) (mvT hZ (ow31 hw)) (mvT hZ (ow30 hw)) (by decide) (backOf (W := 0) (rmalw l Z a0 hw [] b7 (pk i w_OK w_PAYMENT_NOT_ALLOWED w_SINGLE_PAYMENT_LIMIT w_DAILY_PAYMENT_LIMIT w_MONTHLY_PAYMENT_LIMIT w_CURFEW w_DAILY_PLAY_LIMIT) w_OK T9.heap n0 O11 S_OK Fre9) hZ (ow32 hw) (ow10 hw) (by decide) (by decide)) q17a q17c (g := (mkF m 61 #[.val (.int x0), .val (.long x1), .second, .val (.long x2), .second, .val (.int x3), .val (.int i), .val (.ref (pk i w_OK w_PAYMENT_NOT_ALLOWED w_SINGLE_PAYMENT_LIMIT w_DAILY_PAYMENT_LIMIT w_MONTHLY_PAYMENT_LIMIT w_CURFEW w_DAILY_PLAY_LIMIT)), .val .null, .val (.ref b7), .val (.int z)] [(.ref b7)])) rfl (by rw [hml]; rfl) (Steps.refl _) (argsL := []) (rest := []) (lenOf pd4 rfl) rfl (by show 2 * 0 + _ ≤ _; exact Nat.le_of_eq rfl) (hb hby at_61) (fun _ _ => ⟨rfl, e13, (by decide : 1 + 0 ≤ _), (by decide : 3 + 0 ≤ _)⟩)
    dsimp only [Pt.U, Pt.locs, Pt.cells, Pt.slots] at X17 l17 y17 z17 st17 hQ17
    subst l17 y17 z17
    obtain ⟨rfl, Nq17, eq17⟩ := hQ17
    have N19 := Fr.app N13 Nq17
    obtain ⟨fs, hretL, hrun, hended, hW, hsame⟩ := X17.leave (v := some (.int (1 : Int32))) (fun h => by rw [Bd.returns] at h; cases h)
    refine ⟨_, _, pre13 _ ?_, hrun, hended, _, _, rfl, ?_, ⟨_, rfl⟩, hW, hsame.mono (by decide) (by decide)⟩
    · refine XS.istore X13.here hx rfl (hb hby at_57) rfl (l' := #[.val (.int x0), .val (.long x1), .second, .val (.long x2), .second, .val (.int x3), .val (.int i), .val (.ref (pk i w_OK w_PAYMENT_NOT_ALLOWED w_SINGLE_PAYMENT_LIMIT w_DAILY_PAYMENT_LIMIT w_MONTHLY_PAYMENT_LIMIT w_CURFEW w_DAILY_PLAY_LIMIT)), .val .null, .val (.ref b7), .val (.int z)]) rfl ?_
      show Steps p.tables e below (T13.setTop (mkF m 59 #[.val (.int x0), .val (.long x1), .second, .val (.long x2), .second, .val (.int x3), .val (.int i), .val (.ref (pk i w_OK w_PAYMENT_NOT_ALLOWED w_SINGLE_PAYMENT_LIMIT w_DAILY_PAYMENT_LIMIT w_MONTHLY_PAYMENT_LIMIT w_CURFEW w_DAILY_PLAY_LIMIT)), .val .null, .val (.ref b7), .val (.int z)] [])) _
      refine XS.aload X13.here hx rfl (hb hby at_59) rfl rfl ?_
      show Steps p.tables e below (T13.setTop (mkF m 61 #[.val (.int x0), .val (.long x1), .second, .val (.long x2), .second, .val (.int x3), .val (.int i), .val (.ref (pk i w_OK w_PAYMENT_NOT_ALLOWED w_SINGLE_PAYMENT_LIMIT w_DAILY_PAYMENT_LIMIT w_MONTHLY_PAYMENT_LIMIT w_CURFEW w_DAILY_PLAY_LIMIT)), .val .null, .val (.ref b7), .val (.int z)] [(.ref b7)])) _
      refine st17.trans ?_
      show Steps p.tables e below (T17.setTop (mkF m 64 #[.val (.int x0), .val (.long x1), .second, .val (.long x2), .second, .val (.int x3), .val (.int i), .val (.ref (pk i w_OK w_PAYMENT_NOT_ALLOWED w_SINGLE_PAYMENT_LIMIT w_DAILY_PAYMENT_LIMIT w_MONTHLY_PAYMENT_LIMIT w_CURFEW w_DAILY_PLAY_LIMIT)), .val .null, .val (.ref b7), .val (.int z)] [(.int (al (pk i w_OK w_PAYMENT_NOT_ALLOWED w_SINGLE_PAYMENT_LIMIT w_DAILY_PAYMENT_LIMIT w_MONTHLY_PAYMENT_LIMIT w_CURFEW w_DAILY_PLAY_LIMIT) w_OK))])) _
      refine XS.iload X17.here hx rfl (hb hby at_64) rfl ?_
      show Steps p.tables e below (T17.setTop (mkF m 66 #[.val (.int x0), .val (.long x1), .second, .val (.long x2), .second, .val (.int x3), .val (.int i), .val (.ref (pk i w_OK w_PAYMENT_NOT_ALLOWED w_SINGLE_PAYMENT_LIMIT w_DAILY_PAYMENT_LIMIT w_MONTHLY_PAYMENT_LIMIT w_CURFEW w_DAILY_PLAY_LIMIT)), .val .null, .val (.ref b7), .val (.int z)] [(.int z), (.int (al (pk i w_OK w_PAYMENT_NOT_ALLOWED w_SINGLE_PAYMENT_LIMIT w_DAILY_PAYMENT_LIMIT w_MONTHLY_PAYMENT_LIMIT w_CURFEW w_DAILY_PLAY_LIMIT) w_OK))])) _
      refine XS.icmpNo X17.here hx rfl (hb hby at_66) rfl (teq (own_law hi hz (F_PAYMENT_NOT_ALLOWED_ordinal.ne F_OK_ordinal (by decide)) (F_SINGLE_PAYMENT_LIMIT_ordinal.ne F_OK_ordinal (by decide)) (F_DAILY_PAYMENT_LIMIT_ordinal.ne F_OK_ordinal (by decide)) (F_MONTHLY_PAYMENT_LIMIT_ordinal.ne F_OK_ordinal (by decide)) (F_CURFEW_ordinal.ne F_OK_ordinal (by decide)) (F_DAILY_PLAY_LIMIT_ordinal.ne F_OK_ordinal (by decide)))).2 ?_
      show Steps p.tables e below (T17.setTop (mkF m 69 #[.val (.int x0), .val (.long x1), .second, .val (.long x2), .second, .val (.int x3), .val (.int i), .val (.ref (pk i w_OK w_PAYMENT_NOT_ALLOWED w_SINGLE_PAYMENT_LIMIT w_DAILY_PAYMENT_LIMIT w_MONTHLY_PAYMENT_LIMIT w_CURFEW w_DAILY_PLAY_LIMIT)), .val .null, .val (.ref b7), .val (.int z)] [])) _
      refine XS.iconst X17.here hx rfl (hb hby at_69) ?_
      show Steps p.tables e below (T17.setTop (mkF m 70 #[.val (.int x0), .val (.long x1), .second, .val (.long x2), .second, .val (.int x3), .val (.int i), .val (.ref (pk i w_OK w_PAYMENT_NOT_ALLOWED w_SINGLE_PAYMENT_LIMIT w_DAILY_PAYMENT_LIMIT w_MONTHLY_PAYMENT_LIMIT w_CURFEW w_DAILY_PLAY_LIMIT)), .val .null, .val (.ref b7), .val (.int z)] [(.int (1 : Int32))])) _
      refine XS.goto X17.here hx rfl (pc0 := 70) (pc' := 74) rfl (hb hby at_70) (by decide) (by decide) ?_
      show Steps p.tables e below (T17.setTop (mkF m 74 #[.val (.int x0), .val (.long x1), .second, .val (.long x2), .second, .val (.int x3), .val (.int i), .val (.ref (pk i w_OK w_PAYMENT_NOT_ALLOWED w_SINGLE_PAYMENT_LIMIT w_DAILY_PAYMENT_LIMIT w_MONTHLY_PAYMENT_LIMIT w_CURFEW w_DAILY_PLAY_LIMIT)), .val .null, .val (.ref b7), .val (.int z)] [(.int (1 : Int32))])) _
      exact retOut X17 hx Bd.returns rfl (Or.inl ⟨rfl, Or.inr (Or.inl rfl), _, rfl⟩) (hb hby at_74) hretL
    · show Q_rm0 Z x0 x1 x2 x3 w_OK w_DAILY_PAYMENT_LIMIT w_DAILY_PLAY_LIMIT w_PAYMENT_NOT_ALLOWED w_SINGLE_PAYMENT_LIMIT w_MONTHLY_PAYMENT_LIMIT w_CURFEW ac cl h0 n0 _ T17.heap _
      rw [eq17]
      exact ⟨rfl, N19⟩
  · obtain ⟨_, _, ⟨T20, L20, k20, n20⟩, -, X20, ⟨Lc20, hQ20, l20, y20, z20⟩, st20⟩ := Jvm.LawKit.callS X3 hx (y := (⟨"java/lang/Long", "valueOf", "(J)Ljava/lang/Long;"⟩ : MethodName)) hown (mvT hZ (ow36 hw)) (mvT hZ (ow37 hw)) (mvT hZ (ow38 hw)) (mvT hZ (ow39 hw)) (by decide) (backOf (W := 0) (rmval l Z a0 hw [] x2 ac cl h0 n0 O0 Sc Ac hsz hall) hZ (ow39 hw) (ow38 hw) (by decide) (by decide)) (g := (mkF m 24 #[.val (.int x0), .val (.long x1), .second, .val (.long x2), .second, .val (.int x3), .val (.int i), .val (.ref (pk i w_OK w_PAYMENT_NOT_ALLOWED w_SINGLE_PAYMENT_LIMIT w_DAILY_PAYMENT_LIMIT w_MONTHLY_PAYMENT_LIMIT w_CURFEW w_DAILY_PLAY_LIMIT)), .unset, .unset, .unset] [(.long x2)])) rfl (by rw [hml]; rfl) (argsL := [(.long x2)]) (rest := []) (lenOf pd5 rfl) rfl (by show 2 * 0 + _ ≤ _; exact Nat.le_of_eq rfl) (hb hby at_24) (fun _ _ => ⟨rfl, eq3, (by decide : 0 + 1 ≤ _), (by decide : 0 + 1 ≤ _)⟩)
    dsimp only [Pt.U, Pt.locs, Pt.cells, Pt.slots] at X20 l20 y20 z20 st20 hQ20
    subst l20 y20 z20
    obtain ⟨bv20, rfl, Nq20, kp20⟩ := hQ20
    have N21 := Fr.app N4 Nq20
    have O22 := O0.keep kp20 all0
    obtain ⟨T23, h23, X23, e23, E23, A23, D23, U23, st23⟩ := newO X20 hx hZ hown (ow8 hw) (ow9 hw) (ow10 hw) rfl (g := (mkF m 33 #[.val (.int x0), .val (.long x1), .second, .val (.long x2), .second, .val (.int x3), .val (.int i), .val (.ref (pk i w_OK w_PAYMENT_NOT_ALLOWED w_SINGLE_PAYMENT_LIMIT w_DAILY_PAYMENT_LIMIT w_MONTHLY_PAYMENT_LIMIT w_CURFEW w_DAILY_PLAY_LIMIT)), .val (.ref bv20), .unset, .unset] [])) rfl (hb hby at_33) (by decide) (by decide)
    obtain ⟨b23, g23⟩ : ∃ z, z = T20.heap.size := ⟨_, rfl⟩
    rw [← g23] at A23 D23 U23 st23
    have gn23 : n0 ≤ b23 := Nat.le_trans (own_sz O22) (Nat.le_of_eq g23.symm)
    have O24 := O22.ext E23
    have Freason_23 : Fld Z h23 b23 "com/example/tallyhouse/tallyhouse/GuardrailLimits$Decision" "reason" "Lcom/example/tallyhouse/tallyhouse/GuardrailLimits$Reason;" .null := D23 (Or.inr (ow23 hw)) (ty := (.object "com/example/tallyhouse/tallyhouse/GuardrailLimits$Reason")) (by decide)
    have Fused_23 : Fld Z h23 b23 "com/example/tallyhouse/tallyhouse/GuardrailLimits$Decision" "used" "J" (.long (0 : Int64)) := D23 (Or.inr (ow25 hw)) (ty := .long) (by decide)
    have Flimit_23 : Fld Z h23 b23 "com/example/tallyhouse/tallyhouse/GuardrailLimits$Decision" "limit" "Ljava/lang/Long;" .null := D23 (Or.inr (ow27 hw)) (ty := (.object "java/lang/Long")) (by decide)
    obtain ⟨_, _, ⟨T25, L25, k25, n25⟩, -, X25, ⟨Lc25, hQ25, l25, y25, z25⟩, st25⟩ := X23.specialBack hx (y := (⟨"com/example/tallyhouse/tallyhouse/GuardrailLimits$Decision", "<init>", "(Lcom/example/tallyhouse/tallyhouse/GuardrailLimits$Reason;JLjava/lang/Long;)V"⟩ : MethodName)) rfl hown (mvT hZ (ow11 hw)) (mvT hZ (ow12 hw)) (mvT hZ (ow13 hw)) (by decide) (backOf (W := 1) (rmdin l Z a0 hw [] b23 (pk i w_OK w_PAYMENT_NOT_ALLOWED w_SINGLE_PAYMENT_LIMIT w_DAILY_PAYMENT_LIMIT w_MONTHLY_PAYMENT_LIMIT w_CURFEW w_DAILY_PLAY_LIMIT) x1 (.ref bv20)  h23 n0 O24 rfl A23 Freason_23 Fused_23 Flimit_23 gn23) hZ (ow13 hw) (ow10 hw) (by decide) (by decide)) (g := (mkF m 42 #[.val (.int x0), .val (.long x1), .second, .val (.long x2), .second, .val (.int x3), .val (.int i), .val (.ref (pk i w_OK w_PAYMENT_NOT_ALLOWED w_SINGLE_PAYMENT_LIMIT w_DAILY_PAYMENT_LIMIT w_MONTHLY_PAYMENT_LIMIT w_CURFEW w_DAILY_PLAY_LIMIT)), .val (.ref bv20), .unset, .unset] [(.ref bv20), (.long x1), (.ref (pk i w_OK w_PAYMENT_NOT_ALLOWED w_SINGLE_PAYMENT_LIMIT w_DAILY_PAYMENT_LIMIT w_MONTHLY_PAYMENT_LIMIT w_CURFEW w_DAILY_PLAY_LIMIT)), (.ref b23), (.ref b23)])) rfl (by rw [hml]; rfl) (Steps.refl _) (a := b23) (argsL := [(.ref (pk i w_OK w_PAYMENT_NOT_ALLOWED w_SINGLE_PAYMENT_LIMIT w_DAILY_PAYMENT_LIMIT w_MONTHLY_PAYMENT_LIMIT w_CURFEW w_DAILY_PLAY_LIMIT)), (.long x1), (.ref bv20)]) (rest := [(.ref b23)]) (lenOf pd3 rfl) rfl (by show 2 * 0 + _ ≤ _; exact Nat.le_of_eq rfl) (hb hby at_42) (fun _ _ => ⟨rfl, e23, (by decide : 2 + 0 ≤ _), (by decide : 4 + 0 ≤ _)⟩)
    dsimp only [Pt.U, Pt.locs, Pt.cells, Pt.slots] at X25 l25 y25 z25 st25 hQ25
    subst l25 y25 z25
    obtain ⟨rfl, Nq25, kp25, Fre25⟩ := hQ25
    have N26 := Fr.app N21 Nq25
    have O27 := O24.keep kp25 (allS gn23 all0)
    have pre28 : ∀ tgt, Steps p.tables e below (T25.setTop (mkF m 49 #[.val (.int x0), .val (.long x1), .second, .val (.long x2), .second, .val (.int x3), .val (.int i), .val (.ref (pk i w_OK w_PAYMENT_NOT_ALLOWED w_SINGLE_PAYMENT_LIMIT w_DAILY_PAYMENT_LIMIT w_MONTHLY_PAYMENT_LIMIT w_CURFEW w_DAILY_PLAY_LIMIT)), .val (.ref bv20), .val (.ref b23), .unset] [(.int i)])) tgt → Steps p.tables e below (s₁.setTop (entryFrame m #[(.int x0), (.long x1), (.long x2), (.int x3)] maxLocals)) tgt := by
      intro tgt kgo
      refine pre5 _ ?_
      refine XS.ifNo X3.here hx rfl (hb hby at_20) rfl ((if0 _ _).trans (feq hc20_6).1) ?_
      show Steps p.tables e below (T3.setTop (mkF m 23 #[.val (.int x0), .val (.long x1), .second, .val (.long x2), .second, .val (.int x3), .val (.int i), .val (.ref (pk i w_OK w_PAYMENT_NOT_ALLOWED w_SINGLE_PAYMENT_LIMIT w_DAILY_PAYMENT_LIMIT w_MONTHLY_PAYMENT_LIMIT w_CURFEW w_DAILY_PLAY_LIMIT)), .unset, .unset, .unset] [])) _
      refine XS.lloadN X3.here hx rfl (hb hby at_23) rfl ?_
      show Steps p.tables e below (T3.setTop (mkF m 24 #[.val (.int x0), .val (.long x1), .second, .val (.long x2), .second, .val (.int x3), .val (.int i), .val (.ref (pk i w_OK w_PAYMENT_NOT_ALLOWED w_SINGLE_PAYMENT_LIMIT w_DAILY_PAYMENT_LIMIT w_MONTHLY_PAYMENT_LIMIT w_CURFEW w_DAILY_PLAY_LIMIT)), .unset, .unset, .unset] [(.long x2)])) _
      refine st20 _ ?_
      show Steps p.tables e below (T20.setTop (mkF m 27 #[.val (.int x0), .val (.long x1), .second, .val (.long x2), .second, .val (.int x3), .val (.int i), .val (.ref (pk i w_OK w_PAYMENT_NOT_ALLOWED w_SINGLE_PAYMENT_LIMIT w_DAILY_PAYMENT_LIMIT w_MONTHLY_PAYMENT_LIMIT w_CURFEW w_DAILY_PLAY_LIMIT)), .unset, .unset, .unset] [(.ref bv20)])) _
      refine XS.goto X20.here hx rfl (pc0 := 27) (pc' := 31) rfl (hb hby at_27) (by decide) (by decide) ?_
      show Steps p.tables e below (T20.setTop (mkF m 31 #[.val (.int x0), .val (.long x1), .second, .val (.long x2), .second, .val (.int x3), .val (.int i), .val (.ref (pk i w_OK w_PAYMENT_NOT_ALLOWED w_SINGLE_PAYMENT_LIMIT w_DAILY_PAYMENT_LIMIT w_MONTHLY_PAYMENT_LIMIT w_CURFEW w_DAILY_PLAY_LIMIT)), .unset, .unset, .unset] [(.ref bv20)])) _
      refine XS.astore X20.here hx rfl (hb hby at_31) rfl rfl (l' := #[.val (.int x0), .val (.long x1), .second, .val (.long x2), .second, .val (.int x3), .val (.int i), .val (.ref (pk i w_OK w_PAYMENT_NOT_ALLOWED w_SINGLE_PAYMENT_LIMIT w_DAILY_PAYMENT_LIMIT w_MONTHLY_PAYMENT_LIMIT w_CURFEW w_DAILY_PLAY_LIMIT)), .val (.ref bv20), .unset, .unset]) rfl ?_
      show Steps p.tables e below (T20.setTop (mkF m 33 #[.val (.int x0), .val (.long x1), .second, .val (.long x2), .second, .val (.int x3), .val (.int i), .val (.ref (pk i w_OK w_PAYMENT_NOT_ALLOWED w_SINGLE_PAYMENT_LIMIT w_DAILY_PAYMENT_LIMIT w_MONTHLY_PAYMENT_LIMIT w_CURFEW w_DAILY_PLAY_LIMIT)), .val (.ref bv20), .unset, .unset] [])) _
      refine st23 _ ?_
      show Steps p.tables e below (T23.setTop (mkF m 36 #[.val (.int x0), .val (.long x1), .second, .val (.long x2), .second, .val (.int x3), .val (.int i), .val (.ref (pk i w_OK w_PAYMENT_NOT_ALLOWED w_SINGLE_PAYMENT_LIMIT w_DAILY_PAYMENT_LIMIT w_MONTHLY_PAYMENT_LIMIT w_CURFEW w_DAILY_PLAY_LIMIT)), .val (.ref bv20), .unset, .unset] [(.ref b23)])) _
      refine XS.dup X23.here hx rfl (hb hby at_36) rfl rfl ?_
      show Steps p.tables e below (T23.setTop (mkF m 37 #[.val (.int x0), .val (.long x1), .second, .val (.long x2), .second, .val (.int x3), .val (.int i), .val (.ref (pk i w_OK w_PAYMENT_NOT_ALLOWED w_SINGLE_PAYMENT_LIMIT w_DAILY_PAYMENT_LIMIT w_MONTHLY_PAYMENT_LIMIT w_CURFEW w_DAILY_PLAY_LIMIT)), .val (.ref bv20), .unset, .unset] [(.ref b23), (.ref b23)])) _
      refine XS.aload X23.here hx rfl (hb hby at_37) rfl rfl ?_
      show Steps p.tables e below (T23.setTop (mkF m 39 #[.val (.int x0), .val (.long x1), .second, .val (.long x2), .second, .val (.int x3), .val (.int i), .val (.ref (pk i w_OK w_PAYMENT_NOT_ALLOWED w_SINGLE_PAYMENT_LIMIT w_DAILY_PAYMENT_LIMIT w_MONTHLY_PAYMENT_LIMIT w_CURFEW w_DAILY_PLAY_LIMIT)), .val (.ref bv20), .unset, .unset] [(.ref (pk i w_OK w_PAYMENT_NOT_ALLOWED w_SINGLE_PAYMENT_LIMIT w_DAILY_PAYMENT_LIMIT w_MONTHLY_PAYMENT_LIMIT w_CURFEW w_DAILY_PLAY_LIMIT)), (.ref b23), (.ref b23)])) _
      refine XS.lloadN X23.here hx rfl (hb hby at_39) rfl ?_
      show Steps p.tables e below (T23.setTop (mkF m 40 #[.val (.int x0), .val (.long x1), .second, .val (.long x2), .second, .val (.int x3), .val (.int i), .val (.ref (pk i w_OK w_PAYMENT_NOT_ALLOWED w_SINGLE_PAYMENT_LIMIT w_DAILY_PAYMENT_LIMIT w_MONTHLY_PAYMENT_LIMIT w_CURFEW w_DAILY_PLAY_LIMIT)), .val (.ref bv20), .unset, .unset] [(.long x1), (.ref (pk i w_OK w_PAYMENT_NOT_ALLOWED w_SINGLE_PAYMENT_LIMIT w_DAILY_PAYMENT_LIMIT w_MONTHLY_PAYMENT_LIMIT w_CURFEW w_DAILY_PLAY_LIMIT)), (.ref b23), (.ref b23)])) _
      refine XS.aload X23.here hx rfl (hb hby at_40) rfl rfl ?_
      show Steps p.tables e below (T23.setTop (mkF m 42 #[.val (.int x0), .val (.long x1), .second, .val (.long x2), .second, .val (.int x3), .val (.int i), .val (.ref (pk i w_OK w_PAYMENT_NOT_ALLOWED w_SINGLE_PAYMENT_LIMIT w_DAILY_PAYMENT_LIMIT w_MONTHLY_PAYMENT_LIMIT w_CURFEW w_DAILY_PLAY_LIMIT)), .val (.ref bv20), .unset, .unset] [(.ref bv20), (.long x1), (.ref (pk i w_OK w_PAYMENT_NOT_ALLOWED w_SINGLE_PAYMENT_LIMIT w_DAILY_PAYMENT_LIMIT w_MONTHLY_PAYMENT_LIMIT w_CURFEW w_DAILY_PLAY_LIMIT)), (.ref b23), (.ref b23)])) _
      refine st25.trans ?_
      show Steps p.tables e below (T25.setTop (mkF m 45 #[.val (.int x0), .val (.long x1), .second, .val (.long x2), .second, .val (.int x3), .val (.int i), .val (.ref (pk i w_OK w_PAYMENT_NOT_ALLOWED w_SINGLE_PAYMENT_LIMIT w_DAILY_PAYMENT_LIMIT w_MONTHLY_PAYMENT_LIMIT w_CURFEW w_DAILY_PLAY_LIMIT)), .val (.ref bv20), .unset, .unset] [(.ref b23)])) _
      refine XS.astore X25.here hx rfl (hb hby at_45) rfl rfl (l' := #[.val (.int x0), .val (.long x1), .second, .val (.long x2), .second, .val (.int x3), .val (.int i), .val (.ref (pk i w_OK w_PAYMENT_NOT_ALLOWED w_SINGLE_PAYMENT_LIMIT w_DAILY_PAYMENT_LIMIT w_MONTHLY_PAYMENT_LIMIT w_CURFEW w_DAILY_PLAY_LIMIT)), .val (.ref bv20), .val (.ref b23), .unset]) rfl ?_
      show Steps p.tables e below (T25.setTop (mkF m 47 #[.val (.int x0), .val (.long x1), .second, .val (.long x2), .second, .val (.int x3), .val (.int i), .val (.ref (pk i w_OK w_PAYMENT_NOT_ALLOWED w_SINGLE_PAYMENT_LIMIT w_DAILY_PAYMENT_LIMIT w_MONTHLY_PAYMENT_LIMIT w_CURFEW w_DAILY_PLAY_LIMIT)), .val (.ref bv20), .val (.ref b23), .unset] [])) _
      refine XS.iload X25.here hx rfl (hb hby at_47) rfl ?_
      show Steps p.tables e below (T25.setTop (mkF m 49 #[.val (.int x0), .val (.long x1), .second, .val (.long x2), .second, .val (.int x3), .val (.int i), .val (.ref (pk i w_OK w_PAYMENT_NOT_ALLOWED w_SINGLE_PAYMENT_LIMIT w_DAILY_PAYMENT_LIMIT w_MONTHLY_PAYMENT_LIMIT w_CURFEW w_DAILY_PLAY_LIMIT)), .val (.ref bv20), .val (.ref b23), .unset] [(.int i)])) _
      exact kgo
    obtain ⟨T29, lo29, z, X29, e29, N29, hz, pre29⟩ : ∃ (T' : State) (lo29 : List Loc) (z : Int32), Stand p l e room_1 s m #[(.int x0), (.long x1), (.long x2), (.int x3)] below meth c T' lo29 2 4 ∧ T'.heap = T25.heap ∧ Fr n0 lo29 ∧ z = (if i = (0 : Int32) then (1 : Int32) else (0 : Int32)) ∧ ∀ tgt, Steps p.tables e below (T'.setTop (mkF m 57 #[.val (.int x0), .val (.long x1), .second, .val (.long x2), .second, .val (.int x3), .val (.int i), .val (.ref (pk i w_OK w_PAYMENT_NOT_ALLOWED w_SINGLE_PAYMENT_LIMIT w_DAILY_PAYMENT_LIMIT w_MONTHLY_PAYMENT_LIMIT w_CURFEW w_DAILY_PLAY_LIMIT)), .val (.ref bv20), .val (.ref b23), .unset] [(.int z)])) tgt → Steps p.tables e below (s₁.setTop (entryFrame m #[(.int x0), (.long x1), (.long x2), (.int x3)] maxLocals)) tgt := by
      by_cases hc49_30 : i = (0 : Int32)
      · have pre31 : ∀ tgt, Steps p.tables e below (T25.setTop (mkF m 57 #[.val (.int x0), .val (.long x1), .second, .val (.long x2), .second, .val (.int x3), .val (.int i), .val (.ref (pk i w_OK w_PAYMENT_NOT_ALLOWED w_SINGLE_PAYMENT_LIMIT w_DAILY_PAYMENT_LIMIT w_MONTHLY_PAYMENT_LIMIT w_CURFEW w_DAILY_PLAY_LIMIT)), .val (.ref bv20), .val (.ref b23), .unset] [(.int (1 : Int32))])) tgt → Steps p.tables e below (s₁.setTop (entryFrame m #[(.int x0), (.long x1), (.long x2), (.int x3)] maxLocals)) tgt := by
          intro tgt kgo
          refine pre28 _ ?_
          refine XS.ifNo X25.here hx rfl (hb hby at_49) rfl ((if0 _ _).trans (teq hc49_30).2) ?_
          show Steps p.tables e below (T25.setTop (mkF m 52 #[.val (.int x0), .val (.long x1), .second, .val (.long x2), .second, .val (.int x3), .val (.int i), .val (.ref (pk i w_OK w_PAYMENT_NOT_ALLOWED w_SINGLE_PAYMENT_LIMIT w_DAILY_PAYMENT_LIMIT w_MONTHLY_PAYMENT_LIMIT w_CURFEW w_DAILY_PLAY_LIMIT)), .val (.ref bv20), .val (.ref b23), .unset] [])) _
          refine XS.iconst X25.here hx rfl (hb hby at_52) ?_
          show Steps p.tables e below (T25.setTop (mkF m 53 #[.val (.int x0), .val (.long x1), .second, .val (.long x2), .second, .val (.int x3), .val (.int i), .val (.ref (pk i w_OK w_PAYMENT_NOT_ALLOWED w_SINGLE_PAYMENT_LIMIT w_DAILY_PAYMENT_LIMIT w_MONTHLY_PAYMENT_LIMIT w_CURFEW w_DAILY_PLAY_LIMIT)), .val (.ref bv20), .val (.ref b23), .unset] [(.int (1 : Int32))])) _
          refine XS.goto X25.here hx rfl (pc0 := 53) (pc' := 57) rfl (hb hby at_53) (by decide) (by decide) ?_
          show Steps p.tables e below (T25.setTop (mkF m 57 #[.val (.int x0), .val (.long x1), .second, .val (.long x2), .second, .val (.int x3), .val (.int i), .val (.ref (pk i w_OK w_PAYMENT_NOT_ALLOWED w_SINGLE_PAYMENT_LIMIT w_DAILY_PAYMENT_LIMIT w_MONTHLY_PAYMENT_LIMIT w_CURFEW w_DAILY_PLAY_LIMIT)), .val (.ref bv20), .val (.ref b23), .unset] [(.int (1 : Int32))])) _
          exact kgo
        exact ⟨T25, _, (1 : Int32), X25, rfl, N26, (by simp only [if_pos hc49_30]), pre31⟩
      · have pre32 : ∀ tgt, Steps p.tables e below (T25.setTop (mkF m 57 #[.val (.int x0), .val (.long x1), .second, .val (.long x2), .second, .val (.int x3), .val (.int i), .val (.ref (pk i w_OK w_PAYMENT_NOT_ALLOWED w_SINGLE_PAYMENT_LIMIT w_DAILY_PAYMENT_LIMIT w_MONTHLY_PAYMENT_LIMIT w_CURFEW w_DAILY_PLAY_LIMIT)), .val (.ref bv20), .val (.ref b23), .unset] [(.int (0 : Int32))])) tgt → Steps p.tables e below (s₁.setTop (entryFrame m #[(.int x0), (.long x1), (.long x2), (.int x3)] maxLocals)) tgt := by
          intro tgt kgo
          refine pre28 _ ?_
          refine XS.ifYes X25.here hx rfl (pc0 := 49) (pc' := 56) rfl (hb hby at_49) rfl ((if0 _ _).trans (feq hc49_30).2) (by decide) (by decide) ?_
          show Steps p.tables e below (T25.setTop (mkF m 56 #[.val (.int x0), .val (.long x1), .second, .val (.long x2), .second, .val (.int x3), .val (.int i), .val (.ref (pk i w_OK w_PAYMENT_NOT_ALLOWED w_SINGLE_PAYMENT_LIMIT w_DAILY_PAYMENT_LIMIT w_MONTHLY_PAYMENT_LIMIT w_CURFEW w_DAILY_PLAY_LIMIT)), .val (.ref bv20), .val (.ref b23), .unset] [])) _
          refine XS.iconst X25.here hx rfl (hb hby at_56) ?_
          show Steps p.tables e below (T25.setTop (mkF m 57 #[.val (.int x0), .val (.long x1), .second, .val (.long x2), .second, .val (.int x3), .val (.int i), .val (.ref (pk i w_OK w_PAYMENT_NOT_ALLOWED w_SINGLE_PAYMENT_LIMIT w_DAILY_PAYMENT_LIMIT w_MONTHLY_PAYMENT_LIMIT w_CURFEW w_DAILY_PLAY_LIMIT)), .val (.ref bv20), .val (.ref b23), .unset] [(.int (0 : Int32))])) _
          exact kgo
        exact ⟨T25, _, (0 : Int32), X25, rfl, N26, (by simp only [if_neg hc49_30]), pre32⟩
    have f34 := (A23.keep kp25)
    obtain ⟨cq33, kq33, q33a, q33b, q33c⟩ := isOf hZ e29 f34
    obtain ⟨_, _, ⟨T33, L33, k33, n33⟩, -, X33, ⟨Lc33, hQ33, l33, y33, z33⟩, st33⟩ := X29.virtualBack hx (y := (⟨"com/example/tallyhouse/tallyhouse/GuardrailLimits$Decision", "allowed", "()Z"⟩ : MethodName)) (z := (⟨"com/example/tallyhouse/tallyhouse/GuardrailLimits$Decision", "allowed", "()Z"⟩ : MethodName)) hown (mvT hZ (ow28 hw)) (mvT hZ (ow29 hw)) (notFace_of_selects (args := #[]) (mvT hZ (ow31 hw))) (mvT hZ (ow31 hw)) (mvT hZ (ow30 hw)) (by decide) (backOf (W := 0) (rmalw l Z a0 hw [] b23 (pk i w_OK w_PAYMENT_NOT_ALLOWED w_SINGLE_PAYMENT_LIMIT w_DAILY_PAYMENT_LIMIT w_MONTHLY_PAYMENT_LIMIT w_CURFEW w_DAILY_PLAY_LIMIT) w_OK T25.heap n0 O27 S_OK Fre25) hZ (ow32 hw) (ow10 hw) (by decide) (by decide)) q33a q33c (g := (mkF m 61 #[.val (.int x0), .val (.long x1), .second, .val (.long x2), .second, .val (.int x3), .val (.int i), .val (.ref (pk i w_OK w_PAYMENT_NOT_ALLOWED w_SINGLE_PAYMENT_LIMIT w_DAILY_PAYMENT_LIMIT w_MONTHLY_PAYMENT_LIMIT w_CURFEW w_DAILY_PLAY_LIMIT)), .val (.ref bv20), .val (.ref b23), .val (.int z)] [(.ref b23)])) rfl (by rw [hml]; rfl) (Steps.refl _) (argsL := []) (rest := []) (lenOf pd4 rfl) rfl (by show 2 * 0 + _ ≤ _; exact Nat.le_of_eq rfl) (hb hby at_61) (fun _ _ => ⟨rfl, e29, (by decide : 2 + 0 ≤ _), (by decide : 4 + 0 ≤ _)⟩)
    dsimp only [Pt.U, Pt.locs, Pt.cells, Pt.slots] at X33 l33 y33 z33 st33 hQ33
    subst l33 y33 z33
    obtain ⟨rfl, Nq33, eq33⟩ := hQ33
    have N35 := Fr.app N29 Nq33
    obtain ⟨fs, hretL, hrun, hended, hW, hsame⟩ := X33.leave (v := some (.int (1 : Int32))) (fun h => by rw [Bd.returns] at h; cases h)
    refine ⟨_, _, pre29 _ ?_, hrun, hended, _, _, rfl, ?_, ⟨_, rfl⟩, hW, hsame.mono (by decide) (by decide)⟩
    · refine XS.istore X29.here hx rfl (hb hby at_57) rfl (l' := #[.val (.int x0), .val (.long x1), .second, .val (.long x2), .second, .val (.int x3), .val (.int i), .val (.ref (pk i w_OK w_PAYMENT_NOT_ALLOWED w_SINGLE_PAYMENT_LIMIT w_DAILY_PAYMENT_LIMIT w_MONTHLY_PAYMENT_LIMIT w_CURFEW w_DAILY_PLAY_LIMIT)), .val (.ref bv20), .val (.ref b23), .val (.int z)]) rfl ?_
      show Steps p.tables e below (T29.setTop (mkF m 59 #[.val (.int x0), .val (.long x1), .second, .val (.long x2), .second, .val (.int x3), .val (.int i), .val (.ref (pk i w_OK w_PAYMENT_NOT_ALLOWED w_SINGLE_PAYMENT_LIMIT w_DAILY_PAYMENT_LIMIT w_MONTHLY_PAYMENT_LIMIT w_CURFEW w_DAILY_PLAY_LIMIT)), .val (.ref bv20), .val (.ref b23), .val (.int z)] [])) _
      refine XS.aload X29.here hx rfl (hb hby at_59) rfl rfl ?_
      show Steps p.tables e below (T29.setTop (mkF m 61 #[.val (.int x0), .val (.long x1), .second, .val (.long x2), .second, .val (.int x3), .val (.int i), .val (.ref (pk i w_OK w_PAYMENT_NOT_ALLOWED w_SINGLE_PAYMENT_LIMIT w_DAILY_PAYMENT_LIMIT w_MONTHLY_PAYMENT_LIMIT w_CURFEW w_DAILY_PLAY_LIMIT)), .val (.ref bv20), .val (.ref b23), .val (.int z)] [(.ref b23)])) _
      refine st33.trans ?_
      show Steps p.tables e below (T33.setTop (mkF m 64 #[.val (.int x0), .val (.long x1), .second, .val (.long x2), .second, .val (.int x3), .val (.int i), .val (.ref (pk i w_OK w_PAYMENT_NOT_ALLOWED w_SINGLE_PAYMENT_LIMIT w_DAILY_PAYMENT_LIMIT w_MONTHLY_PAYMENT_LIMIT w_CURFEW w_DAILY_PLAY_LIMIT)), .val (.ref bv20), .val (.ref b23), .val (.int z)] [(.int (al (pk i w_OK w_PAYMENT_NOT_ALLOWED w_SINGLE_PAYMENT_LIMIT w_DAILY_PAYMENT_LIMIT w_MONTHLY_PAYMENT_LIMIT w_CURFEW w_DAILY_PLAY_LIMIT) w_OK))])) _
      refine XS.iload X33.here hx rfl (hb hby at_64) rfl ?_
      show Steps p.tables e below (T33.setTop (mkF m 66 #[.val (.int x0), .val (.long x1), .second, .val (.long x2), .second, .val (.int x3), .val (.int i), .val (.ref (pk i w_OK w_PAYMENT_NOT_ALLOWED w_SINGLE_PAYMENT_LIMIT w_DAILY_PAYMENT_LIMIT w_MONTHLY_PAYMENT_LIMIT w_CURFEW w_DAILY_PLAY_LIMIT)), .val (.ref bv20), .val (.ref b23), .val (.int z)] [(.int z), (.int (al (pk i w_OK w_PAYMENT_NOT_ALLOWED w_SINGLE_PAYMENT_LIMIT w_DAILY_PAYMENT_LIMIT w_MONTHLY_PAYMENT_LIMIT w_CURFEW w_DAILY_PLAY_LIMIT) w_OK))])) _
      refine XS.icmpNo X33.here hx rfl (hb hby at_66) rfl (teq (own_law hi hz (F_PAYMENT_NOT_ALLOWED_ordinal.ne F_OK_ordinal (by decide)) (F_SINGLE_PAYMENT_LIMIT_ordinal.ne F_OK_ordinal (by decide)) (F_DAILY_PAYMENT_LIMIT_ordinal.ne F_OK_ordinal (by decide)) (F_MONTHLY_PAYMENT_LIMIT_ordinal.ne F_OK_ordinal (by decide)) (F_CURFEW_ordinal.ne F_OK_ordinal (by decide)) (F_DAILY_PLAY_LIMIT_ordinal.ne F_OK_ordinal (by decide)))).2 ?_
      show Steps p.tables e below (T33.setTop (mkF m 69 #[.val (.int x0), .val (.long x1), .second, .val (.long x2), .second, .val (.int x3), .val (.int i), .val (.ref (pk i w_OK w_PAYMENT_NOT_ALLOWED w_SINGLE_PAYMENT_LIMIT w_DAILY_PAYMENT_LIMIT w_MONTHLY_PAYMENT_LIMIT w_CURFEW w_DAILY_PLAY_LIMIT)), .val (.ref bv20), .val (.ref b23), .val (.int z)] [])) _
      refine XS.iconst X33.here hx rfl (hb hby at_69) ?_
      show Steps p.tables e below (T33.setTop (mkF m 70 #[.val (.int x0), .val (.long x1), .second, .val (.long x2), .second, .val (.int x3), .val (.int i), .val (.ref (pk i w_OK w_PAYMENT_NOT_ALLOWED w_SINGLE_PAYMENT_LIMIT w_DAILY_PAYMENT_LIMIT w_MONTHLY_PAYMENT_LIMIT w_CURFEW w_DAILY_PLAY_LIMIT)), .val (.ref bv20), .val (.ref b23), .val (.int z)] [(.int (1 : Int32))])) _
      refine XS.goto X33.here hx rfl (pc0 := 70) (pc' := 74) rfl (hb hby at_70) (by decide) (by decide) ?_
      show Steps p.tables e below (T33.setTop (mkF m 74 #[.val (.int x0), .val (.long x1), .second, .val (.long x2), .second, .val (.int x3), .val (.int i), .val (.ref (pk i w_OK w_PAYMENT_NOT_ALLOWED w_SINGLE_PAYMENT_LIMIT w_DAILY_PAYMENT_LIMIT w_MONTHLY_PAYMENT_LIMIT w_CURFEW w_DAILY_PLAY_LIMIT)), .val (.ref bv20), .val (.ref b23), .val (.int z)] [(.int (1 : Int32))])) _
      exact retOut X33 hx Bd.returns rfl (Or.inl ⟨rfl, Or.inr (Or.inl rfl), _, rfl⟩) (hb hby at_74) hretL
    · show Q_rm0 Z x0 x1 x2 x3 w_OK w_DAILY_PAYMENT_LIMIT w_DAILY_PLAY_LIMIT w_PAYMENT_NOT_ALLOWED w_SINGLE_PAYMENT_LIMIT w_MONTHLY_PAYMENT_LIMIT w_CURFEW ac cl h0 n0 _ T33.heap _
      rw [eq33]
      exact ⟨rfl, N35⟩
theorem own_len {args : Array Value} {s : State} {t : Term} {a : Addr} {cl : Cell} (ev : t.eval args s none [] s = some (.ref a)) (ha : s.arrayAt? a = some cl) (h : (Jvm.Cond.eq (.length t) (.int 256)).value args s none s [] = some true) : cl.slots.size = 256 := by
  obtain ⟨x, y, h1, h2, -, -⟩ := cmp_v (Or.inl h)
  by_cases q : cl.slots.size < 2 ^ 31
  · have h3 := len_f ev ha q
    rw [Cond.value, h3, Term.int_eval] at h
    have h4 : cl.slots.size.toInt32 = 256 := by simpa using h
    have h5 := len_toInt q
    rw [h4] at h5
    have h6 : (256 : Int32).toInt = 256 := rfl
    omega
  · simp [Term.eval, ev, ha, q] at h1
theorem own_all {args : Array Value} {s : State} {t : Term} {a : Addr} {cl : Cell} {X : Jvm.Cond} (ev : t.eval args s none [] s = some (.ref a)) (ha : s.arrayAt? a = some cl) (hsz : cl.slots.size = 256) (h : (Jvm.Cond.all t (.and (.exactly (.elem t (.index 0)) "java/lang/Long") X)).value args s none s [] = some true) (hev : ∀ j, t.eval args s none [j] s = t.eval args s none [] s := by intro j; rfl) : ∀ j : Nat, j < 256 → ∃ b : Addr, cl.slots[j]? = some (.ref b) := by
  intro j hj
  have h1 := Cond.all_elim ev ha h j (by rw [hsz]; exact hj)
  obtain ⟨h2, -⟩ := and_e h1
  obtain ⟨b, h3⟩ := exa_v h2
  refine ⟨b, ?_⟩
  have hj1 : ¬ j.toInt32 < 0 := by rw [Int32.lt_iff_toInt_lt, len_toInt (by omega)]; simp
  have hj2 : j.toInt32.toNatClampNeg = j := by have := nat_of hj1; rw [len_toInt (by omega)] at this; omega
  have h4 : (Term.index 0).eval args s none [j] s = some (.int j.toInt32) := Term.index_eval _
  have h5 := elem_f (t := t) (a := .index 0) (idx := [j]) ((hev j).trans ev) h4 ha hj1
  rw [hj2] at h5
  rw [← h5]; exact h3
set_option maxRecDepth 65536 in
set_option maxHeartbeats 40000000 in
theorem comes_1 {Post : Tables → Env → Array Value → State → Outcome → State → Prop} (hpost : ∀ tb e args s v u, (limb_1_1.after args s (.returned v) u = true ∧ limb_1_2.after args s (.returned v) u = true ∧ True) → FrameEnd s (.returned v) u (Jvm.fieldLocs frame_1_writes args s ++ Jvm.arrayLocs frame_1_arrays args s ++ Jvm.staticLocs frame_1_statics s) 16 128 → Post tb e args s (.returned v) u) :
    ArmFor flags0 classFile x code maxLocals ret World_1 tables_1 room_1 Calls_1 rest_1 Pre_1 Post := by
  intro l hfl _ _ p e ha hc hk s m args below hf hA hF happ hP
  obtain ⟨hcalls, hrest, hpre⟩ := hP
  obtain ⟨-, -, -, hnamed, -, -, -, hat⟩ := (Spec.applies_iff hf).mp happ
  obtain ⟨hg, hn⟩ := and_e (Cond.before_iff.mp (show (Jvm.Cond.and given_1 narrow_1).before args s = true from hpre))
  obtain ⟨u1, v1⟩ := and_e hg
  obtain ⟨u2, v2⟩ := and_e v1
  obtain ⟨u3, v3⟩ := and_e v2
  obtain ⟨u4, v4⟩ := and_e v3
  obtain ⟨w0, w1, w2, w3, rfl⟩ : ∃ w0 w1 w2 w3 : Value, args = #[w0, w1, w2, w3] := by
    have hs : args.size = 4 := by simpa [Cond.value, given_1] using u1
    obtain ⟨L⟩ := args
    match L, hs with
    | [w0, w1, w2, w3], _ => exact ⟨w0, w1, w2, w3, rfl⟩
  have hw := fun d (hd : d ∈ tables_1) => atoms_spec (ws := Jvm.Cond.code x code maxLocals ret :: tables_1) hat d (List.mem_cons_of_mem _ hd)
  have hfit : Fit s := fun {y c} hc i hi => by
    obtain ⟨ha, rfl⟩ := Array.getElem?_eq_some_iff.mp hc
    have q := List.all_eq_true.mp ((Array.all_eq_true_iff_forall_mem.mp hF) _ (Array.getElem_mem ha)) i (List.mem_range.mpr hi)
    simpa [Array.getElem?_eq_getElem hi] using q
  obtain ⟨i0, ei0⟩ := is_v u2
  obtain rfl : w0 = (.int i0) := Option.some.inj ei0
  obtain ⟨i1, ei1⟩ := isL_v u3
  obtain rfl : w1 = (.long i1) := Option.some.inj ei1
  obtain ⟨i2, ei2⟩ := isL_v u4
  obtain rfl : w2 = (.long i2) := Option.some.inj ei2
  obtain ⟨i3, ei3⟩ := is_v v4
  obtain rfl : w3 = (.int i3) := Option.some.inj ei3
  obtain ⟨hsets, hown0⟩ := atoms_of _ (rest_1_c_eq ▸ (show rest_1_c.before _ s = true from hrest))
  have hlay := (hsets _ (List.mem_of_getElem? (i := 0) rfl))
  have hini := (hsets _ (List.mem_of_getElem? (i := 1) rfl))
  have harr := Cond.before_iff.mp (hsets _ (List.mem_of_getElem? (i := 2) rfl))
  have hlen := Cond.before_iff.mp (hsets _ (List.mem_of_getElem? (i := 4) rfl))
  have hal := Cond.before_iff.mp (hsets _ (List.mem_of_getElem? (i := 5) rfl))
  obtain ⟨ac, evc⟩ := arr_v harr
  have Sc := Sta.start evc (Or.inl hini)
  obtain ⟨cl, Ac⟩ := Arr.start evc harr
  have hat1 := Arr.fin (Vm.Alike.refl _) Ac
  have hsz : cl.slots.size = 256 := own_len evc hat1 hlen
  have hall : ∀ j : Nat, j < 256 → ∃ b : Addr, cl.slots[j]? = some (.ref b) := own_all evc hat1 hsz hal
  obtain ⟨nu1, nv1⟩ := and_e hn
  obtain ⟨nu2, nv2⟩ := and_e nv1
  obtain ⟨nu3, nv3⟩ := and_e nv2
  obtain ⟨nu4, nv4⟩ := and_e nv3
  obtain ⟨nu5, nv5⟩ := and_e nv4
  obtain ⟨nu6, nv6⟩ := and_e nv5
  obtain ⟨nu7, nv7⟩ := and_e nv6
  obtain ⟨nu8, nv8⟩ := and_e nv7
  obtain ⟨nu9, nv9⟩ := and_e nv8
  obtain ⟨nu10, nv10⟩ := and_e nv9
  obtain ⟨nu11, nv11⟩ := and_e nv10
  obtain ⟨nu12, nv12⟩ := and_e nv11
  obtain ⟨nu13, nv13⟩ := and_e nv12
  obtain ⟨w_OK, S_OK, E_OK, ev_OK⟩ := own_sta nu1 (ow6 hw) (ow7 hw)
  obtain ⟨w_DAILY_PAYMENT_LIMIT, S_DAILY_PAYMENT_LIMIT, E_DAILY_PAYMENT_LIMIT, ev_DAILY_PAYMENT_LIMIT⟩ := own_sta nu2 (ow6 hw) (ow35 hw)
  obtain ⟨w_DAILY_PLAY_LIMIT, S_DAILY_PLAY_LIMIT, E_DAILY_PLAY_LIMIT, ev_DAILY_PLAY_LIMIT⟩ := own_sta nu5 (ow6 hw) (ow58 hw)
  obtain ⟨w_PAYMENT_NOT_ALLOWED, S_PAYMENT_NOT_ALLOWED, E_PAYMENT_NOT_ALLOWED, ev_PAYMENT_NOT_ALLOWED⟩ := own_sta nu7 (ow6 hw) (ow60 hw)
  obtain ⟨w_SINGLE_PAYMENT_LIMIT, S_SINGLE_PAYMENT_LIMIT, E_SINGLE_PAYMENT_LIMIT, ev_SINGLE_PAYMENT_LIMIT⟩ := own_sta nu9 (ow6 hw) (ow62 hw)
  obtain ⟨w_MONTHLY_PAYMENT_LIMIT, S_MONTHLY_PAYMENT_LIMIT, E_MONTHLY_PAYMENT_LIMIT, ev_MONTHLY_PAYMENT_LIMIT⟩ := own_sta nu11 (ow6 hw) (ow64 hw)
  obtain ⟨w_CURFEW, S_CURFEW, E_CURFEW, ev_CURFEW⟩ := own_sta nu13 (ow6 hw) (ow68 hw)
  have F_DAILY_PAYMENT_LIMIT_ordinal := own_fint ev_DAILY_PAYMENT_LIMIT nu3
  have F_OK_ordinal := own_fint ev_OK nu4
  have F_DAILY_PLAY_LIMIT_ordinal := own_fint ev_DAILY_PLAY_LIMIT nu6
  have F_PAYMENT_NOT_ALLOWED_ordinal := own_fint ev_PAYMENT_NOT_ALLOWED nu8
  have F_SINGLE_PAYMENT_LIMIT_ordinal := own_fint ev_SINGLE_PAYMENT_LIMIT nu10
  have F_MONTHLY_PAYMENT_LIMIT_ordinal := own_fint ev_MONTHLY_PAYMENT_LIMIT nu12
  have F_CURFEW_ordinal := own_fint ev_CURFEW nv13
  obtain ⟨n, o, h1, h2, h3, _, L, rfl, ⟨rfl, N⟩, hq⟩ := rm0 l s _ hw tables_1 i0 i1 i2 i3 w_OK w_DAILY_PAYMENT_LIMIT w_DAILY_PLAY_LIMIT w_PAYMENT_NOT_ALLOWED w_SINGLE_PAYMENT_LIMIT w_MONTHLY_PAYMENT_LIMIT w_CURFEW ac cl s.heap s.heap.size (Old.start s) S_OK E_OK S_DAILY_PAYMENT_LIMIT E_DAILY_PAYMENT_LIMIT S_DAILY_PLAY_LIMIT E_DAILY_PLAY_LIMIT S_PAYMENT_NOT_ALLOWED E_PAYMENT_NOT_ALLOWED S_SINGLE_PAYMENT_LIMIT E_SINGLE_PAYMENT_LIMIT S_MONTHLY_PAYMENT_LIMIT E_MONTHLY_PAYMENT_LIMIT S_CURFEW E_CURFEW F_DAILY_PAYMENT_LIMIT_ordinal F_OK_ordinal F_DAILY_PLAY_LIMIT_ordinal F_PAYMENT_NOT_ALLOWED_ordinal F_SINGLE_PAYMENT_LIMIT_ordinal F_MONTHLY_PAYMENT_LIMIT_ordinal F_CURFEW_ordinal Sc Ac hsz hall p e ha hc hk s m _ below hf ((Spec.applies_iff_loose hf).mp happ).1 ⟨rfl, State.Warmed39.refl s, rfl⟩ trivial
  refine ⟨n, _, h1, h2, h3, hpost _ _ _ _ _ _ ⟨Cond.after_iff.mpr rfl, Cond.after_iff.mpr (eq_i res_at (Term.int_eval (1)) rfl), trivial⟩ ⟨hq.1, hq.2.1, (hq.2.2.sift fun y hy => Or.inr (N y hy)).mono (by decide) (by decide)⟩⟩
theorem main_1_1 : Claimed_1_1 := comes_1 fun _ _ _ _ _ _ h hF => ⟨h.1, hF⟩
theorem main_1_2 : Claimed_1_2 := comes_1 fun _ _ _ _ _ _ h hF => ⟨h.2.1, hF⟩
end Jvm.Pilot.@@N@@
namespace Jvm.Pilot.@@N@@
open Jvm Jvm.ClassFile Sem Op Lib Jvm.Free Jvm.Stand Jvm.Pilot.@@N@@.Jvm.D
/-! MADE BY PROGRAM (witnessworld.py) out of the Statement's table words and the real class files: 20 classes; the members and pool entries that the words name. The judged class is class 1, her method 2. -/
namespace start1
open Jvm.ClassFile
def u (s : String) : CpInfo := .utf8 (stringToUtf16 s)
/-- a pool by its gaps: so many unusable entries, then the entry; so many at the end -/
def gap : Nat → List CpInfo → List CpInfo
  | 0, r => r
  | n + 1, r => .unusable :: gap n r
def poolList (es : List (Nat × CpInfo)) (last : Nat) : List CpInfo := es.foldr (fun e r => gap e.1 (e.2 :: r)) (gap last [])
def pool (es : List (Nat × CpInfo)) (last : Nat) : Array CpInfo := ⟨poolList es last⟩
def fileOf (pool : Array CpInfo) (this : Nat) (attrs : Array Attribute := #[]) (ms : Array MethodInfo := #[]) (fl : Nat := 33) (sup : Nat := 0) (ifs : Array Nat := #[]) (fds : Array FieldInfo := #[]) : ClassFile where
  minorVersion := 0
  majorVersion := 65
  constantPool := pool
  accessFlags := fl
  thisClass := this
  superClass := sup
  interfaces := ifs
  fields := fds
  methods := ms
  attributes := attrs
def plain (name : String) (sup : Option ClassId) : Class where
  name := name
  kind := .ordinary
  loader := none
  accessFlags := 33
  super := sup
  interfaces := #[]
  cf := none
  fields := #[]
  methods := #[]
  instanceTypes := #[]
  staticTypes := #[]
  resolved := #[]
  callSites := []
  init := .initialized
  statics := none
  mirror := none

def pool0 : Array CpInfo := pool [(5, u "<init>"), (0, u "()V"), (1, .class_ 10), (1, u "java/lang/Object")] 113

def k0c0 : Code := { maxStack := 0, maxLocals := 1, code := object_method_1_code, exceptionTable := #[], attributes := #[] }
def k0m0 : Method := { name := "<init>", desc := "()V", sig := { parameters := [], returnType := none }, accessFlags := 1, code := some k0c0 }
/-- java/lang/Object -/
def k0 : Class := { plain "java/lang/Object" none with
  accessFlags := 33
  interfaces := #[]
  cf := some (fileOf pool0 8 #[] #[{ accessFlags := 1, nameIndex := 5, descriptorIndex := 6, attributes := #[] }] 33 0 #[] #[])
  fields := #[]
  methods := #[k0m0]
  instanceTypes := #[]
  staticTypes := #[]
  resolved := Array.replicate 124 none
  statics := none }

def pool1 : Array CpInfo := pool [(2, .class_ 4), (1, u "java/lang/Object"), (0, u "<init>"), (0, u "()V"), (0, .fieldref 8 9), (0, .class_ 10), (0, .nameAndType 11 12), (0, u "com/example/tallyhouse/tallyhouse/GuardrailLimits$Reason"), (0, u "OK"), (0, u "Lcom/example/tallyhouse/tallyhouse/GuardrailLimits$Reason;"), (0, .fieldref 8 14), (0, .nameAndType 15 12), (0, u "PAYMENT_NOT_ALLOWED"), (0, .fieldref 8 17), (0, .nameAndType 18 12), (0, u "SINGLE_PAYMENT_LIMIT"), (0, .fieldref 8 20), (0, .nameAndType 21 12), (0, u "DAILY_PAYMENT_LIMIT"), (0, .fieldref 8 23), (0, .nameAndType 24 12), (0, u "MONTHLY_PAYMENT_LIMIT"), (0, .fieldref 8 26), (0, .nameAndType 27 12), (0, u "CURFEW"), (0, .fieldref 8 29), (0, .nameAndType 30 12), (0, u "DAILY_PLAY_LIMIT"), (0, .integer 2147483647), (0, .methodref 33 34), (0, .class_ 35), (0, .nameAndType 36 37), (0, u "com/example/tallyhouse/tallyhouse/DecisionAllowedPinLaw"), (0, u "pick"), (0, u "(I)Lcom/example/tallyhouse/tallyhouse/GuardrailLimits$Reason;"), (0, .methodref 39 40), (0, .class_ 41), (0, .nameAndType 42 43), (0, u "java/lang/Long"), (0, u "valueOf"), (0, u "(J)Ljava/lang/Long;"), (0, .class_ 45), (0, u "com/example/tallyhouse/tallyhouse/GuardrailLimits$Decision"), (0, .methodref 44 47), (0, .nameAndType 5 48), (0, u "(Lcom/example/tallyhouse/tallyhouse/GuardrailLimits$Reason;JLjava/lang/Long;)V"), (0, .methodref 44 50), (0, .nameAndType 51 52), (0, u "allowed"), (0, u "()Z"), (3, u "law"), (0, u "(IJJI)Z")] 7

def k1m0 : Method := { name := "<init>", desc := "()V", sig := { parameters := [], returnType := none }, accessFlags := 1, code := none }
def k1c1 : Code := { maxStack := 2, maxLocals := 1, code := method_2_code, exceptionTable := #[], attributes := #[] }
def k1m1 : Method := { name := "pick", desc := "(I)Lcom/example/tallyhouse/tallyhouse/GuardrailLimits$Reason;", sig := { parameters := [.int], returnType := some (.object "com/example/tallyhouse/tallyhouse/GuardrailLimits$Reason") }, accessFlags := 10, code := some k1c1 }
def k1c2 : Code := { maxStack := 6, maxLocals := 11, code := code, exceptionTable := #[], attributes := #[] }
def k1m2 : Method := { name := "law", desc := "(IJJI)Z", sig := { parameters := [.int, .long, .long, .int], returnType := some .boolean }, accessFlags := 9, code := some k1c2 }
/-- com/example/tallyhouse/tallyhouse/DecisionAllowedPinLaw -/
def k1 : Class := { plain "com/example/tallyhouse/tallyhouse/DecisionAllowedPinLaw" (some 0) with
  accessFlags := 49
  interfaces := #[]
  cf := some (fileOf pool1 33 #[] #[{ accessFlags := 1, nameIndex := 5, descriptorIndex := 6, attributes := #[] }, { accessFlags := 10, nameIndex := 36, descriptorIndex := 37, attributes := #[] }, { accessFlags := 9, nameIndex := 56, descriptorIndex := 57, attributes := #[] }] 49 2 #[] #[])
  fields := #[]
  methods := #[k1m0, k1m1, k1m2]
  instanceTypes := #[]
  staticTypes := #[]
  resolved := Array.replicate 65 none
  statics := none }

def pool2 : Array CpInfo := pool [(1, .class_ 2), (0, u "java/lang/constant/Constable"), (0, .class_ 4), (0, u "java/lang/Object")] 6

/-- java/lang/constant/Constable -/
def k2 : Class := { plain "java/lang/constant/Constable" (some 0) with
  accessFlags := 1537
  interfaces := #[]
  cf := some (fileOf pool2 1 #[] #[] 1537 3 #[] #[])
  fields := #[]
  methods := #[]
  instanceTypes := #[]
  staticTypes := #[]
  resolved := Array.replicate 11 none
  statics := none }

def pool3 : Array CpInfo := pool [(1, .class_ 2), (0, u "java/lang/Comparable"), (0, .class_ 4), (0, u "java/lang/Object")] 7

/-- java/lang/Comparable -/
def k3 : Class := { plain "java/lang/Comparable" (some 0) with
  accessFlags := 1537
  interfaces := #[]
  cf := some (fileOf pool3 1 #[] #[] 1537 3 #[] #[])
  fields := #[]
  methods := #[]
  instanceTypes := #[]
  staticTypes := #[]
  resolved := Array.replicate 12 none
  statics := none }

def pool4 : Array CpInfo := pool [(1, .class_ 2), (0, u "java/io/Serializable"), (0, .class_ 4), (0, u "java/lang/Object")] 2

/-- java/io/Serializable -/
def k4 : Class := { plain "java/io/Serializable" (some 0) with
  accessFlags := 1537
  interfaces := #[]
  cf := some (fileOf pool4 1 #[] #[] 1537 3 #[] #[])
  fields := #[]
  methods := #[]
  instanceTypes := #[]
  staticTypes := #[]
  resolved := Array.replicate 7 none
  statics := none }

def pool5 : Array CpInfo := pool [(2, .class_ 4), (1, u "java/lang/Enum"), (0, u "name"), (0, u "Ljava/lang/String;"), (2, u "ordinal"), (0, u "I"), (1, .class_ 14), (1, u "java/lang/Object"), (4, u "hash"), (86, .class_ 108), (1, u "java/lang/Enum$EnumDesc"), (2, .class_ 112), (0, u "java/lang/constant/Constable"), (0, .class_ 114), (0, u "java/lang/Comparable"), (0, .class_ 116), (0, u "java/io/Serializable")] 87

/-- java/lang/Enum -/
def k5 : Class := { plain "java/lang/Enum" (some 0) with
  accessFlags := 1057
  interfaces := #[2, 3, 4]
  cf := some (fileOf pool5 2 #[.nestMembers #[106]] #[] 1057 12 #[111, 113, 115] #[{ accessFlags := 18, nameIndex := 5, descriptorIndex := 6, attributes := #[] }, { accessFlags := 18, nameIndex := 9, descriptorIndex := 10, attributes := #[] }, { accessFlags := 2, nameIndex := 19, descriptorIndex := 10, attributes := #[] }])
  fields := #[{ name := "name", type := (.object "java/lang/String"), accessFlags := 18, slot := 0, constantValue := 0 }, { name := "ordinal", type := .int, accessFlags := 18, slot := 1, constantValue := 0 }, { name := "hash", type := .int, accessFlags := 2, slot := 2, constantValue := 0 }]
  methods := #[]
  instanceTypes := #[(.object "java/lang/String"), .int, .int]
  staticTypes := #[]
  resolved := Array.replicate 204 none
  statics := none }

def pool6 : Array CpInfo := pool [(2, .class_ 4), (1, u "com/example/tallyhouse/tallyhouse/Labelled"), (56, .class_ 62), (0, u "java/lang/Object")] 11

/-- com/example/tallyhouse/tallyhouse/Labelled -/
def k6 : Class := { plain "com/example/tallyhouse/tallyhouse/Labelled" (some 0) with
  accessFlags := 1536
  interfaces := #[]
  cf := some (fileOf pool6 2 #[] #[] 1536 61 #[] #[])
  fields := #[]
  methods := #[]
  instanceTypes := #[]
  staticTypes := #[]
  resolved := Array.replicate 74 none
  statics := none }

def pool7 : Array CpInfo := pool [(1, .class_ 2), (0, u "com/example/tallyhouse/tallyhouse/GuardrailLimits$Reason"), (2, u "OK"), (0, u "Lcom/example/tallyhouse/tallyhouse/GuardrailLimits$Reason;"), (2, u "PAYMENT_NOT_ALLOWED"), (2, u "SINGLE_PAYMENT_LIMIT"), (2, u "DAILY_PAYMENT_LIMIT"), (2, u "MONTHLY_PAYMENT_LIMIT"), (2, u "CURFEW"), (2, u "DAILY_PLAY_LIMIT"), (2, u "$VALUES"), (0, u "[Lcom/example/tallyhouse/tallyhouse/GuardrailLimits$Reason;"), (6, .class_ 37), (1, u "java/lang/Enum"), (18, .class_ 57), (0, u "com/example/tallyhouse/tallyhouse/Labelled"), (12, .class_ 71), (0, u "com/example/tallyhouse/tallyhouse/GuardrailLimits")] 2

/-- com/example/tallyhouse/tallyhouse/GuardrailLimits$Reason -/
def k7 : Class := { plain "com/example/tallyhouse/tallyhouse/GuardrailLimits$Reason" (some 5) with
  accessFlags := 16432
  interfaces := #[6]
  cf := some (fileOf pool7 1 #[.nestHost 70] #[] 16432 35 #[56] #[{ accessFlags := 16409, nameIndex := 5, descriptorIndex := 6, attributes := #[] }, { accessFlags := 16409, nameIndex := 9, descriptorIndex := 6, attributes := #[] }, { accessFlags := 16409, nameIndex := 12, descriptorIndex := 6, attributes := #[] }, { accessFlags := 16409, nameIndex := 15, descriptorIndex := 6, attributes := #[] }, { accessFlags := 16409, nameIndex := 18, descriptorIndex := 6, attributes := #[] }, { accessFlags := 16409, nameIndex := 21, descriptorIndex := 6, attributes := #[] }, { accessFlags := 16409, nameIndex := 24, descriptorIndex := 6, attributes := #[] }, { accessFlags := 4122, nameIndex := 27, descriptorIndex := 28, attributes := #[] }])
  fields := #[{ name := "OK", type := (.object "com/example/tallyhouse/tallyhouse/GuardrailLimits$Reason"), accessFlags := 16409, slot := 0, constantValue := 0 }, { name := "PAYMENT_NOT_ALLOWED", type := (.object "com/example/tallyhouse/tallyhouse/GuardrailLimits$Reason"), accessFlags := 16409, slot := 1, constantValue := 0 }, { name := "SINGLE_PAYMENT_LIMIT", type := (.object "com/example/tallyhouse/tallyhouse/GuardrailLimits$Reason"), accessFlags := 16409, slot := 2, constantValue := 0 }, { name := "DAILY_PAYMENT_LIMIT", type := (.object "com/example/tallyhouse/tallyhouse/GuardrailLimits$Reason"), accessFlags := 16409, slot := 3, constantValue := 0 }, { name := "MONTHLY_PAYMENT_LIMIT", type := (.object "com/example/tallyhouse/tallyhouse/GuardrailLimits$Reason"), accessFlags := 16409, slot := 4, constantValue := 0 }, { name := "CURFEW", type := (.object "com/example/tallyhouse/tallyhouse/GuardrailLimits$Reason"), accessFlags := 16409, slot := 5, constantValue := 0 }, { name := "DAILY_PLAY_LIMIT", type := (.object "com/example/tallyhouse/tallyhouse/GuardrailLimits$Reason"), accessFlags := 16409, slot := 6, constantValue := 0 }, { name := "$VALUES", type := (.array (.object "com/example/tallyhouse/tallyhouse/GuardrailLimits$Reason")), accessFlags := 4122, slot := 7, constantValue := 0 }]
  methods := #[]
  instanceTypes := #[(.object "java/lang/String"), .int, .int]
  staticTypes := #[(.object "com/example/tallyhouse/tallyhouse/GuardrailLimits$Reason"), (.object "com/example/tallyhouse/tallyhouse/GuardrailLimits$Reason"), (.object "com/example/tallyhouse/tallyhouse/GuardrailLimits$Reason"), (.object "com/example/tallyhouse/tallyhouse/GuardrailLimits$Reason"), (.object "com/example/tallyhouse/tallyhouse/GuardrailLimits$Reason"), (.object "com/example/tallyhouse/tallyhouse/GuardrailLimits$Reason"), (.object "com/example/tallyhouse/tallyhouse/GuardrailLimits$Reason"), (.array (.object "com/example/tallyhouse/tallyhouse/GuardrailLimits$Reason"))]
  resolved := Array.replicate 74 none
  statics := some 0 }

def pool8 : Array CpInfo := pool [(1, .methodref 2 3), (0, .class_ 4), (0, .nameAndType 5 6), (0, u "java/lang/Object"), (0, u "<init>"), (0, u "()V"), (0, .class_ 8), (0, u "java/lang/Record")] 13

def k8c0 : Code := { maxStack := 1, maxLocals := 1, code := jdk_30_method_1_code, exceptionTable := #[], attributes := #[] }
def k8m0 : Method := { name := "<init>", desc := "()V", sig := { parameters := [], returnType := none }, accessFlags := 4, code := some k8c0 }
/-- java/lang/Record -/
def k8 : Class := { plain "java/lang/Record" (some 0) with
  accessFlags := 1057
  interfaces := #[]
  cf := some (fileOf pool8 7 #[] #[{ accessFlags := 4, nameIndex := 5, descriptorIndex := 6, attributes := #[] }] 1057 2 #[] #[])
  fields := #[]
  methods := #[k8m0]
  instanceTypes := #[]
  staticTypes := #[]
  resolved := Array.replicate 22 none
  statics := none }

def pool9 : Array CpInfo := pool [(1, .methodref 2 3), (0, .class_ 4), (0, .nameAndType 5 6), (0, u "java/lang/Record"), (0, u "<init>"), (0, u "()V"), (0, .fieldref 8 9), (0, .class_ 10), (0, .nameAndType 11 12), (0, u "com/example/tallyhouse/tallyhouse/GuardrailLimits$Decision"), (0, u "reason"), (0, u "Lcom/example/tallyhouse/tallyhouse/GuardrailLimits$Reason;"), (0, .fieldref 8 14), (0, .nameAndType 15 16), (0, u "used"), (0, u "J"), (0, .fieldref 8 18), (0, .nameAndType 19 20), (0, u "limit"), (0, u "Ljava/lang/Long;"), (0, .fieldref 22 23), (0, .class_ 24), (0, .nameAndType 25 12), (0, u "com/example/tallyhouse/tallyhouse/GuardrailLimits$Reason"), (0, u "OK"), (12, u "(Lcom/example/tallyhouse/tallyhouse/GuardrailLimits$Reason;JLjava/lang/Long;)V"), (3, u "allowed"), (0, u "()Z"), (10, .class_ 55), (0, u "com/example/tallyhouse/tallyhouse/GuardrailLimits")] 22

def k9c0 : Code := { maxStack := 3, maxLocals := 5, code := prog_8_method_1_code, exceptionTable := #[], attributes := #[] }
def k9m0 : Method := { name := "<init>", desc := "(Lcom/example/tallyhouse/tallyhouse/GuardrailLimits$Reason;JLjava/lang/Long;)V", sig := { parameters := [(.object "com/example/tallyhouse/tallyhouse/GuardrailLimits$Reason"), .long, (.object "java/lang/Long")], returnType := none }, accessFlags := 0, code := some k9c0 }
def k9c1 : Code := { maxStack := 2, maxLocals := 1, code := prog_8_method_2_code, exceptionTable := #[], attributes := #[] }
def k9m1 : Method := { name := "allowed", desc := "()Z", sig := { parameters := [], returnType := some .boolean }, accessFlags := 0, code := some k9c1 }
/-- com/example/tallyhouse/tallyhouse/GuardrailLimits$Decision -/
def k9 : Class := { plain "com/example/tallyhouse/tallyhouse/GuardrailLimits$Decision" (some 8) with
  accessFlags := 48
  interfaces := #[]
  cf := some (fileOf pool9 8 #[.nestHost 54] #[{ accessFlags := 0, nameIndex := 5, descriptorIndex := 38, attributes := #[] }, { accessFlags := 0, nameIndex := 42, descriptorIndex := 43, attributes := #[] }] 48 2 #[] #[{ accessFlags := 18, nameIndex := 11, descriptorIndex := 12, attributes := #[] }, { accessFlags := 18, nameIndex := 15, descriptorIndex := 16, attributes := #[] }, { accessFlags := 18, nameIndex := 19, descriptorIndex := 20, attributes := #[] }])
  fields := #[{ name := "reason", type := (.object "com/example/tallyhouse/tallyhouse/GuardrailLimits$Reason"), accessFlags := 18, slot := 0, constantValue := 0 }, { name := "used", type := .long, accessFlags := 18, slot := 1, constantValue := 0 }, { name := "limit", type := (.object "java/lang/Long"), accessFlags := 18, slot := 2, constantValue := 0 }]
  methods := #[k9m0, k9m1]
  instanceTypes := #[(.object "com/example/tallyhouse/tallyhouse/GuardrailLimits$Reason"), .long, (.object "java/lang/Long")]
  staticTypes := #[]
  resolved := Array.replicate 78 none
  statics := none }

def pool10 : Array CpInfo := pool [(1, .methodref 2 3), (0, .class_ 4), (0, .nameAndType 5 6), (0, u "java/lang/Object"), (0, u "<init>"), (0, u "()V"), (1, .class_ 10), (1, u "java/lang/Number"), (2, .class_ 14), (0, u "java/io/Serializable"), (0, u "serialVersionUID"), (0, u "J")] 20

def k10c0 : Code := { maxStack := 1, maxLocals := 1, code := jdk_18_method_1_code, exceptionTable := #[], attributes := #[] }
def k10m0 : Method := { name := "<init>", desc := "()V", sig := { parameters := [], returnType := none }, accessFlags := 1, code := some k10c0 }
/-- java/lang/Number -/
def k10 : Class := { plain "java/lang/Number" (some 0) with
  accessFlags := 1057
  interfaces := #[4]
  cf := some (fileOf pool10 8 #[] #[{ accessFlags := 1, nameIndex := 5, descriptorIndex := 6, attributes := #[] }] 1057 2 #[13] #[{ accessFlags := 26, nameIndex := 15, descriptorIndex := 16, attributes := #[] }])
  fields := #[{ name := "serialVersionUID", type := .long, accessFlags := 26, slot := 0, constantValue := 0 }]
  methods := #[k10m0]
  instanceTypes := #[]
  staticTypes := #[.long]
  resolved := Array.replicate 37 none
  statics := none }

def pool11 : Array CpInfo := pool [(1, .class_ 2), (0, u "java/lang/constant/ConstantDesc"), (0, .class_ 4), (0, u "java/lang/Object")] 32

/-- java/lang/constant/ConstantDesc -/
def k11 : Class := { plain "java/lang/constant/ConstantDesc" (some 0) with
  accessFlags := 1537
  interfaces := #[]
  cf := some (fileOf pool11 1 #[] #[] 1537 3 #[] #[])
  fields := #[]
  methods := #[]
  instanceTypes := #[]
  staticTypes := #[]
  resolved := Array.replicate 37 none
  statics := none }

def pool12 : Array CpInfo := pool [(1, .class_ 2), (0, u "java/lang/Long"), (55, .nameAndType 59 60), (0, u "<init>"), (0, u "()V"), (24, u "valueOf"), (143, u "(J)Ljava/lang/Long;"), (0, .long 18446744073709551488), (1, .long 127), (1, .fieldref 235 236), (0, .class_ 237), (0, .nameAndType 238 239), (0, u "java/lang/Long$LongCache"), (0, u "cache"), (0, u "[Ljava/lang/Long;"), (0, .methodref 1 241), (0, .nameAndType 59 242), (0, u "(J)V"), (27, .methodref 271 58), (0, .class_ 272), (0, u "java/lang/Number"), (0, .fieldref 1 274), (0, .nameAndType 275 276), (0, u "value"), (0, u "J"), (84, u "TYPE"), (0, u "Ljava/lang/Class;"), (0, .class_ 364), (0, u "java/lang/Comparable"), (0, .class_ 366), (0, u "java/lang/constant/Constable"), (0, .class_ 368), (0, u "java/lang/constant/ConstantDesc"), (0, u "MIN_VALUE"), (1, u "MAX_VALUE"), (4, u "SIZE"), (0, u "I"), (1, u "BYTES"), (1, u "serialVersionUID")] 142

def k12c0 : Code := { maxStack := 4, maxLocals := 3, code := jdk_35_method_24_code, exceptionTable := #[], attributes := #[] }
def k12m0 : Method := { name := "valueOf", desc := "(J)Ljava/lang/Long;", sig := { parameters := [.long], returnType := some (.object "java/lang/Long") }, accessFlags := 9, code := some k12c0 }
def k12c1 : Code := { maxStack := 3, maxLocals := 3, code := jdk_35_method_26_code, exceptionTable := #[], attributes := #[] }
def k12m1 : Method := { name := "<init>", desc := "(J)V", sig := { parameters := [.long], returnType := none }, accessFlags := 1, code := some k12c1 }
/-- java/lang/Long -/
def k12 : Class := { plain "java/lang/Long" (some 10) with
  accessFlags := 49
  interfaces := #[3, 2, 11]
  cf := some (fileOf pool12 1 #[.nestMembers #[235]] #[{ accessFlags := 9, nameIndex := 85, descriptorIndex := 229, attributes := #[] }, { accessFlags := 1, nameIndex := 59, descriptorIndex := 242, attributes := #[] }] 49 271 #[363, 365, 367] #[{ accessFlags := 25, nameIndex := 369, descriptorIndex := 276, attributes := #[] }, { accessFlags := 25, nameIndex := 371, descriptorIndex := 276, attributes := #[] }, { accessFlags := 25, nameIndex := 361, descriptorIndex := 362, attributes := #[] }, { accessFlags := 18, nameIndex := 275, descriptorIndex := 276, attributes := #[] }, { accessFlags := 25, nameIndex := 376, descriptorIndex := 377, attributes := #[] }, { accessFlags := 25, nameIndex := 379, descriptorIndex := 377, attributes := #[] }, { accessFlags := 26, nameIndex := 381, descriptorIndex := 276, attributes := #[] }])
  fields := #[{ name := "MIN_VALUE", type := .long, accessFlags := 25, slot := 0, constantValue := 0 }, { name := "MAX_VALUE", type := .long, accessFlags := 25, slot := 1, constantValue := 0 }, { name := "TYPE", type := (.object "java/lang/Class"), accessFlags := 25, slot := 2, constantValue := 0 }, { name := "value", type := .long, accessFlags := 18, slot := 0, constantValue := 0 }, { name := "SIZE", type := .int, accessFlags := 25, slot := 3, constantValue := 0 }, { name := "BYTES", type := .int, accessFlags := 25, slot := 4, constantValue := 0 }, { name := "serialVersionUID", type := .long, accessFlags := 26, slot := 5, constantValue := 0 }]
  methods := #[k12m0, k12m1]
  instanceTypes := #[.long]
  staticTypes := #[.long, .long, (.object "java/lang/Class"), .int, .int, .long]
  resolved := Array.replicate 524 none
  statics := none }

def pool13 : Array CpInfo := pool [(2, .class_ 4), (1, u "java/lang/Object"), (0, u "<init>"), (0, u "()V"), (0, .class_ 8), (0, u "java/lang/Long"), (7, .class_ 18), (1, u "java/lang/Long$LongCache"), (0, u "$assertionsDisabled"), (0, u "Z"), (8, u "archivedCache"), (0, u "[Ljava/lang/Long;"), (7, u "cache")] 24

def k13m0 : Method := { name := "<init>", desc := "()V", sig := { parameters := [], returnType := none }, accessFlags := 2, code := none }
/-- java/lang/Long$LongCache -/
def k13 : Class := { plain "java/lang/Long$LongCache" (some 0) with
  accessFlags := 48
  interfaces := #[]
  cf := some (fileOf pool13 16 #[.nestHost 7] #[{ accessFlags := 2, nameIndex := 5, descriptorIndex := 6, attributes := #[] }] 48 2 #[] #[{ accessFlags := 24, nameIndex := 38, descriptorIndex := 30, attributes := #[] }, { accessFlags := 8, nameIndex := 29, descriptorIndex := 30, attributes := #[] }, { accessFlags := 4120, nameIndex := 19, descriptorIndex := 20, attributes := #[] }])
  fields := #[{ name := "cache", type := (.array (.object "java/lang/Long")), accessFlags := 24, slot := 0, constantValue := 0 }, { name := "archivedCache", type := (.array (.object "java/lang/Long")), accessFlags := 8, slot := 1, constantValue := 0 }, { name := "$assertionsDisabled", type := .boolean, accessFlags := 4120, slot := 2, constantValue := 0 }]
  methods := #[k13m0]
  instanceTypes := #[]
  staticTypes := #[(.array (.object "java/lang/Long")), (.array (.object "java/lang/Long")), .boolean]
  resolved := Array.replicate 63 none
  statics := some 1 }

def pool14 : Array CpInfo := pool [(1, u "java/lang/Cloneable"), (0, .class_ 1), (0, u "java/lang/Object"), (0, .class_ 3)] 3

/-- java/lang/Cloneable -/
def k14 : Class := { plain "java/lang/Cloneable" (some 0) with
  accessFlags := 1537
  interfaces := #[]
  cf := some (fileOf pool14 2 #[] #[] 1537 4 #[] #[])
  fields := #[]
  methods := #[]
  instanceTypes := #[]
  staticTypes := #[]
  resolved := Array.replicate 8 none
  statics := none }

/-- the primitive byte -/
def k15 : Class := { plain "byte" none with kind := .primitive 'B', accessFlags := 0x411 }
/-- [B -/
def k16 : Class := { plain "[B" (some 0) with kind := .array 15 .byte, interfaces := #[14, 4], accessFlags := 1041 }

/-- the primitive int -/
def k17 : Class := { plain "int" none with kind := .primitive 'I', accessFlags := 0x411 }
/-- [I -/
def k18 : Class := { plain "[I" (some 0) with kind := .array 17 .int, interfaces := #[14, 4], accessFlags := 1041 }

/-- [Ljava/lang/Long; -/
def k19 : Class := { plain "[Ljava/lang/Long;" (some 0) with kind := .array 12 (.object "java/lang/Long"), interfaces := #[14, 4], accessFlags := 1041 }

def heap : Heap := #[{ cls := 7, slots := #[.ref 259, .ref 260, .ref 261, .ref 262, .ref 263, .ref 264, .ref 265, .null], vm := .statics 7 },
  { cls := 13, slots := #[.ref 2, .null, .int 0], vm := .statics 13 },
  { cls := 19, slots := #[.ref 3, .ref 4, .ref 5, .ref 6, .ref 7, .ref 8, .ref 9, .ref 10, .ref 11, .ref 12, .ref 13, .ref 14, .ref 15, .ref 16, .ref 17, .ref 18, .ref 19, .ref 20, .ref 21, .ref 22, .ref 23, .ref 24, .ref 25, .ref 26, .ref 27, .ref 28, .ref 29, .ref 30, .ref 31, .ref 32, .ref 33, .ref 34, .ref 35, .ref 36, .ref 37, .ref 38, .ref 39, .ref 40, .ref 41, .ref 42, .ref 43, .ref 44, .ref 45, .ref 46, .ref 47, .ref 48, .ref 49, .ref 50, .ref 51, .ref 52, .ref 53, .ref 54, .ref 55, .ref 56, .ref 57, .ref 58, .ref 59, .ref 60, .ref 61, .ref 62, .ref 63, .ref 64, .ref 65, .ref 66, .ref 67, .ref 68, .ref 69, .ref 70, .ref 71, .ref 72, .ref 73, .ref 74, .ref 75, .ref 76, .ref 77, .ref 78, .ref 79, .ref 80, .ref 81, .ref 82, .ref 83, .ref 84, .ref 85, .ref 86, .ref 87, .ref 88, .ref 89, .ref 90, .ref 91, .ref 92, .ref 93, .ref 94, .ref 95, .ref 96, .ref 97, .ref 98, .ref 99, .ref 100, .ref 101, .ref 102, .ref 103, .ref 104, .ref 105, .ref 106, .ref 107, .ref 108, .ref 109, .ref 110, .ref 111, .ref 112, .ref 113, .ref 114, .ref 115, .ref 116, .ref 117, .ref 118, .ref 119, .ref 120, .ref 121, .ref 122, .ref 123, .ref 124, .ref 125, .ref 126, .ref 127, .ref 128, .ref 129, .ref 130, .ref 131, .ref 132, .ref 133, .ref 134, .ref 135, .ref 136, .ref 137, .ref 138, .ref 139, .ref 140, .ref 141, .ref 142, .ref 143, .ref 144, .ref 145, .ref 146, .ref 147, .ref 148, .ref 149, .ref 150, .ref 151, .ref 152, .ref 153, .ref 154, .ref 155, .ref 156, .ref 157, .ref 158, .ref 159, .ref 160, .ref 161, .ref 162, .ref 163, .ref 164, .ref 165, .ref 166, .ref 167, .ref 168, .ref 169, .ref 170, .ref 171, .ref 172, .ref 173, .ref 174, .ref 175, .ref 176, .ref 177, .ref 178, .ref 179, .ref 180, .ref 181, .ref 182, .ref 183, .ref 184, .ref 185, .ref 186, .ref 187, .ref 188, .ref 189, .ref 190, .ref 191, .ref 192, .ref 193, .ref 194, .ref 195, .ref 196, .ref 197, .ref 198, .ref 199, .ref 200, .ref 201, .ref 202, .ref 203, .ref 204, .ref 205, .ref 206, .ref 207, .ref 208, .ref 209, .ref 210, .ref 211, .ref 212, .ref 213, .ref 214, .ref 215, .ref 216, .ref 217, .ref 218, .ref 219, .ref 220, .ref 221, .ref 222, .ref 223, .ref 224, .ref 225, .ref 226, .ref 227, .ref 228, .ref 229, .ref 230, .ref 231, .ref 232, .ref 233, .ref 234, .ref 235, .ref 236, .ref 237, .ref 238, .ref 239, .ref 240, .ref 241, .ref 242, .ref 243, .ref 244, .ref 245, .ref 246, .ref 247, .ref 248, .ref 249, .ref 250, .ref 251, .ref 252, .ref 253, .ref 254, .ref 255, .ref 256, .ref 257, .ref 258], vm := .none },
  { cls := 12, slots := #[.long (-128)], vm := .none },
  { cls := 12, slots := #[.long (-127)], vm := .none },
  { cls := 12, slots := #[.long (-126)], vm := .none },
  { cls := 12, slots := #[.long (-125)], vm := .none },
  { cls := 12, slots := #[.long (-124)], vm := .none },
  { cls := 12, slots := #[.long (-123)], vm := .none },
  { cls := 12, slots := #[.long (-122)], vm := .none },
  { cls := 12, slots := #[.long (-121)], vm := .none },
  { cls := 12, slots := #[.long (-120)], vm := .none },
  { cls := 12, slots := #[.long (-119)], vm := .none },
  { cls := 12, slots := #[.long (-118)], vm := .none },
  { cls := 12, slots := #[.long (-117)], vm := .none },
  { cls := 12, slots := #[.long (-116)], vm := .none },
  { cls := 12, slots := #[.long (-115)], vm := .none },
  { cls := 12, slots := #[.long (-114)], vm := .none },
  { cls := 12, slots := #[.long (-113)], vm := .none },
  { cls := 12, slots := #[.long (-112)], vm := .none },
  { cls := 12, slots := #[.long (-111)], vm := .none },
  { cls := 12, slots := #[.long (-110)], vm := .none },
  { cls := 12, slots := #[.long (-109)], vm := .none },
  { cls := 12, slots := #[.long (-108)], vm := .none },
  { cls := 12, slots := #[.long (-107)], vm := .none },
  { cls := 12, slots := #[.long (-106)], vm := .none },
  { cls := 12, slots := #[.long (-105)], vm := .none },
  { cls := 12, slots := #[.long (-104)], vm := .none },
  { cls := 12, slots := #[.long (-103)], vm := .none },
  { cls := 12, slots := #[.long (-102)], vm := .none },
  { cls := 12, slots := #[.long (-101)], vm := .none },
  { cls := 12, slots := #[.long (-100)], vm := .none },
  { cls := 12, slots := #[.long (-99)], vm := .none },
  { cls := 12, slots := #[.long (-98)], vm := .none },
  { cls := 12, slots := #[.long (-97)], vm := .none },
  { cls := 12, slots := #[.long (-96)], vm := .none },
  { cls := 12, slots := #[.long (-95)], vm := .none },
  { cls := 12, slots := #[.long (-94)], vm := .none },
  { cls := 12, slots := #[.long (-93)], vm := .none },
  { cls := 12, slots := #[.long (-92)], vm := .none },
  { cls := 12, slots := #[.long (-91)], vm := .none },
  { cls := 12, slots := #[.long (-90)], vm := .none },
  { cls := 12, slots := #[.long (-89)], vm := .none },
  { cls := 12, slots := #[.long (-88)], vm := .none },
  { cls := 12, slots := #[.long (-87)], vm := .none },
  { cls := 12, slots := #[.long (-86)], vm := .none },
  { cls := 12, slots := #[.long (-85)], vm := .none },
  { cls := 12, slots := #[.long (-84)], vm := .none },
  { cls := 12, slots := #[.long (-83)], vm := .none },
  { cls := 12, slots := #[.long (-82)], vm := .none },
  { cls := 12, slots := #[.long (-81)], vm := .none },
  { cls := 12, slots := #[.long (-80)], vm := .none },
  { cls := 12, slots := #[.long (-79)], vm := .none },
  { cls := 12, slots := #[.long (-78)], vm := .none },
  { cls := 12, slots := #[.long (-77)], vm := .none },
  { cls := 12, slots := #[.long (-76)], vm := .none },
  { cls := 12, slots := #[.long (-75)], vm := .none },
  { cls := 12, slots := #[.long (-74)], vm := .none },
  { cls := 12, slots := #[.long (-73)], vm := .none },
  { cls := 12, slots := #[.long (-72)], vm := .none },
  { cls := 12, slots := #[.long (-71)], vm := .none },
  { cls := 12, slots := #[.long (-70)], vm := .none },
  { cls := 12, slots := #[.long (-69)], vm := .none },
  { cls := 12, slots := #[.long (-68)], vm := .none },
  { cls := 12, slots := #[.long (-67)], vm := .none },
  { cls := 12, slots := #[.long (-66)], vm := .none },
  { cls := 12, slots := #[.long (-65)], vm := .none },
  { cls := 12, slots := #[.long (-64)], vm := .none },
  { cls := 12, slots := #[.long (-63)], vm := .none },
  { cls := 12, slots := #[.long (-62)], vm := .none },
  { cls := 12, slots := #[.long (-61)], vm := .none },
  { cls := 12, slots := #[.long (-60)], vm := .none },
  { cls := 12, slots := #[.long (-59)], vm := .none },
  { cls := 12, slots := #[.long (-58)], vm := .none },
  { cls := 12, slots := #[.long (-57)], vm := .none },
  { cls := 12, slots := #[.long (-56)], vm := .none },
  { cls := 12, slots := #[.long (-55)], vm := .none },
  { cls := 12, slots := #[.long (-54)], vm := .none },
  { cls := 12, slots := #[.long (-53)], vm := .none },
  { cls := 12, slots := #[.long (-52)], vm := .none },
  { cls := 12, slots := #[.long (-51)], vm := .none },
  { cls := 12, slots := #[.long (-50)], vm := .none },
  { cls := 12, slots := #[.long (-49)], vm := .none },
  { cls := 12, slots := #[.long (-48)], vm := .none },
  { cls := 12, slots := #[.long (-47)], vm := .none },
  { cls := 12, slots := #[.long (-46)], vm := .none },
  { cls := 12, slots := #[.long (-45)], vm := .none },
  { cls := 12, slots := #[.long (-44)], vm := .none },
  { cls := 12, slots := #[.long (-43)], vm := .none },
  { cls := 12, slots := #[.long (-42)], vm := .none },
  { cls := 12, slots := #[.long (-41)], vm := .none },
  { cls := 12, slots := #[.long (-40)], vm := .none },
  { cls := 12, slots := #[.long (-39)], vm := .none },
  { cls := 12, slots := #[.long (-38)], vm := .none },
  { cls := 12, slots := #[.long (-37)], vm := .none },
  { cls := 12, slots := #[.long (-36)], vm := .none },
  { cls := 12, slots := #[.long (-35)], vm := .none },
  { cls := 12, slots := #[.long (-34)], vm := .none },
  { cls := 12, slots := #[.long (-33)], vm := .none },
  { cls := 12, slots := #[.long (-32)], vm := .none },
  { cls := 12, slots := #[.long (-31)], vm := .none },
  { cls := 12, slots := #[.long (-30)], vm := .none },
  { cls := 12, slots := #[.long (-29)], vm := .none },
  { cls := 12, slots := #[.long (-28)], vm := .none },
  { cls := 12, slots := #[.long (-27)], vm := .none },
  { cls := 12, slots := #[.long (-26)], vm := .none },
  { cls := 12, slots := #[.long (-25)], vm := .none },
  { cls := 12, slots := #[.long (-24)], vm := .none },
  { cls := 12, slots := #[.long (-23)], vm := .none },
  { cls := 12, slots := #[.long (-22)], vm := .none },
  { cls := 12, slots := #[.long (-21)], vm := .none },
  { cls := 12, slots := #[.long (-20)], vm := .none },
  { cls := 12, slots := #[.long (-19)], vm := .none },
  { cls := 12, slots := #[.long (-18)], vm := .none },
  { cls := 12, slots := #[.long (-17)], vm := .none },
  { cls := 12, slots := #[.long (-16)], vm := .none },
  { cls := 12, slots := #[.long (-15)], vm := .none },
  { cls := 12, slots := #[.long (-14)], vm := .none },
  { cls := 12, slots := #[.long (-13)], vm := .none },
  { cls := 12, slots := #[.long (-12)], vm := .none },
  { cls := 12, slots := #[.long (-11)], vm := .none },
  { cls := 12, slots := #[.long (-10)], vm := .none },
  { cls := 12, slots := #[.long (-9)], vm := .none },
  { cls := 12, slots := #[.long (-8)], vm := .none },
  { cls := 12, slots := #[.long (-7)], vm := .none },
  { cls := 12, slots := #[.long (-6)], vm := .none },
  { cls := 12, slots := #[.long (-5)], vm := .none },
  { cls := 12, slots := #[.long (-4)], vm := .none },
  { cls := 12, slots := #[.long (-3)], vm := .none },
  { cls := 12, slots := #[.long (-2)], vm := .none },
  { cls := 12, slots := #[.long (-1)], vm := .none },
  { cls := 12, slots := #[.long 0], vm := .none },
  { cls := 12, slots := #[.long 1], vm := .none },
  { cls := 12, slots := #[.long 2], vm := .none },
  { cls := 12, slots := #[.long 3], vm := .none },
  { cls := 12, slots := #[.long 4], vm := .none },
  { cls := 12, slots := #[.long 5], vm := .none },
  { cls := 12, slots := #[.long 6], vm := .none },
  { cls := 12, slots := #[.long 7], vm := .none },
  { cls := 12, slots := #[.long 8], vm := .none },
  { cls := 12, slots := #[.long 9], vm := .none },
  { cls := 12, slots := #[.long 10], vm := .none },
  { cls := 12, slots := #[.long 11], vm := .none },
  { cls := 12, slots := #[.long 12], vm := .none },
  { cls := 12, slots := #[.long 13], vm := .none },
  { cls := 12, slots := #[.long 14], vm := .none },
  { cls := 12, slots := #[.long 15], vm := .none },
  { cls := 12, slots := #[.long 16], vm := .none },
  { cls := 12, slots := #[.long 17], vm := .none },
  { cls := 12, slots := #[.long 18], vm := .none },
  { cls := 12, slots := #[.long 19], vm := .none },
  { cls := 12, slots := #[.long 20], vm := .none },
  { cls := 12, slots := #[.long 21], vm := .none },
  { cls := 12, slots := #[.long 22], vm := .none },
  { cls := 12, slots := #[.long 23], vm := .none },
  { cls := 12, slots := #[.long 24], vm := .none },
  { cls := 12, slots := #[.long 25], vm := .none },
  { cls := 12, slots := #[.long 26], vm := .none },
  { cls := 12, slots := #[.long 27], vm := .none },
  { cls := 12, slots := #[.long 28], vm := .none },
  { cls := 12, slots := #[.long 29], vm := .none },
  { cls := 12, slots := #[.long 30], vm := .none },
  { cls := 12, slots := #[.long 31], vm := .none },
  { cls := 12, slots := #[.long 32], vm := .none },
  { cls := 12, slots := #[.long 33], vm := .none },
  { cls := 12, slots := #[.long 34], vm := .none },
  { cls := 12, slots := #[.long 35], vm := .none },
  { cls := 12, slots := #[.long 36], vm := .none },
  { cls := 12, slots := #[.long 37], vm := .none },
  { cls := 12, slots := #[.long 38], vm := .none },
  { cls := 12, slots := #[.long 39], vm := .none },
  { cls := 12, slots := #[.long 40], vm := .none },
  { cls := 12, slots := #[.long 41], vm := .none },
  { cls := 12, slots := #[.long 42], vm := .none },
  { cls := 12, slots := #[.long 43], vm := .none },
  { cls := 12, slots := #[.long 44], vm := .none },
  { cls := 12, slots := #[.long 45], vm := .none },
  { cls := 12, slots := #[.long 46], vm := .none },
  { cls := 12, slots := #[.long 47], vm := .none },
  { cls := 12, slots := #[.long 48], vm := .none },
  { cls := 12, slots := #[.long 49], vm := .none },
  { cls := 12, slots := #[.long 50], vm := .none },
  { cls := 12, slots := #[.long 51], vm := .none },
  { cls := 12, slots := #[.long 52], vm := .none },
  { cls := 12, slots := #[.long 53], vm := .none },
  { cls := 12, slots := #[.long 54], vm := .none },
  { cls := 12, slots := #[.long 55], vm := .none },
  { cls := 12, slots := #[.long 56], vm := .none },
  { cls := 12, slots := #[.long 57], vm := .none },
  { cls := 12, slots := #[.long 58], vm := .none },
  { cls := 12, slots := #[.long 59], vm := .none },
  { cls := 12, slots := #[.long 60], vm := .none },
  { cls := 12, slots := #[.long 61], vm := .none },
  { cls := 12, slots := #[.long 62], vm := .none },
  { cls := 12, slots := #[.long 63], vm := .none },
  { cls := 12, slots := #[.long 64], vm := .none },
  { cls := 12, slots := #[.long 65], vm := .none },
  { cls := 12, slots := #[.long 66], vm := .none },
  { cls := 12, slots := #[.long 67], vm := .none },
  { cls := 12, slots := #[.long 68], vm := .none },
  { cls := 12, slots := #[.long 69], vm := .none },
  { cls := 12, slots := #[.long 70], vm := .none },
  { cls := 12, slots := #[.long 71], vm := .none },
  { cls := 12, slots := #[.long 72], vm := .none },
  { cls := 12, slots := #[.long 73], vm := .none },
  { cls := 12, slots := #[.long 74], vm := .none },
  { cls := 12, slots := #[.long 75], vm := .none },
  { cls := 12, slots := #[.long 76], vm := .none },
  { cls := 12, slots := #[.long 77], vm := .none },
  { cls := 12, slots := #[.long 78], vm := .none },
  { cls := 12, slots := #[.long 79], vm := .none },
  { cls := 12, slots := #[.long 80], vm := .none },
  { cls := 12, slots := #[.long 81], vm := .none },
  { cls := 12, slots := #[.long 82], vm := .none },
  { cls := 12, slots := #[.long 83], vm := .none },
  { cls := 12, slots := #[.long 84], vm := .none },
  { cls := 12, slots := #[.long 85], vm := .none },
  { cls := 12, slots := #[.long 86], vm := .none },
  { cls := 12, slots := #[.long 87], vm := .none },
  { cls := 12, slots := #[.long 88], vm := .none },
  { cls := 12, slots := #[.long 89], vm := .none },
  { cls := 12, slots := #[.long 90], vm := .none },
  { cls := 12, slots := #[.long 91], vm := .none },
  { cls := 12, slots := #[.long 92], vm := .none },
  { cls := 12, slots := #[.long 93], vm := .none },
  { cls := 12, slots := #[.long 94], vm := .none },
  { cls := 12, slots := #[.long 95], vm := .none },
  { cls := 12, slots := #[.long 96], vm := .none },
  { cls := 12, slots := #[.long 97], vm := .none },
  { cls := 12, slots := #[.long 98], vm := .none },
  { cls := 12, slots := #[.long 99], vm := .none },
  { cls := 12, slots := #[.long 100], vm := .none },
  { cls := 12, slots := #[.long 101], vm := .none },
  { cls := 12, slots := #[.long 102], vm := .none },
  { cls := 12, slots := #[.long 103], vm := .none },
  { cls := 12, slots := #[.long 104], vm := .none },
  { cls := 12, slots := #[.long 105], vm := .none },
  { cls := 12, slots := #[.long 106], vm := .none },
  { cls := 12, slots := #[.long 107], vm := .none },
  { cls := 12, slots := #[.long 108], vm := .none },
  { cls := 12, slots := #[.long 109], vm := .none },
  { cls := 12, slots := #[.long 110], vm := .none },
  { cls := 12, slots := #[.long 111], vm := .none },
  { cls := 12, slots := #[.long 112], vm := .none },
  { cls := 12, slots := #[.long 113], vm := .none },
  { cls := 12, slots := #[.long 114], vm := .none },
  { cls := 12, slots := #[.long 115], vm := .none },
  { cls := 12, slots := #[.long 116], vm := .none },
  { cls := 12, slots := #[.long 117], vm := .none },
  { cls := 12, slots := #[.long 118], vm := .none },
  { cls := 12, slots := #[.long 119], vm := .none },
  { cls := 12, slots := #[.long 120], vm := .none },
  { cls := 12, slots := #[.long 121], vm := .none },
  { cls := 12, slots := #[.long 122], vm := .none },
  { cls := 12, slots := #[.long 123], vm := .none },
  { cls := 12, slots := #[.long 124], vm := .none },
  { cls := 12, slots := #[.long 125], vm := .none },
  { cls := 12, slots := #[.long 126], vm := .none },
  { cls := 12, slots := #[.long 127], vm := .none },
  { cls := 7, slots := #[.null, .int 0, .int 0], vm := .none },
  { cls := 7, slots := #[.null, .int 1, .int 0], vm := .none },
  { cls := 7, slots := #[.null, .int 2, .int 0], vm := .none },
  { cls := 7, slots := #[.null, .int 3, .int 0], vm := .none },
  { cls := 7, slots := #[.null, .int 4, .int 0], vm := .none },
  { cls := 7, slots := #[.null, .int 5, .int 0], vm := .none },
  { cls := 7, slots := #[.null, .int 6, .int 0], vm := .none }]
def classes : Array Class := #[k0, k1, k2, k3, k4, k5, k6, k7, k8, k9, k10, k11, k12, k13, k14, k15, k16, k17, k18, k19]
def interned : List (Array UInt16 × Addr) := []
def slotsUsed : Nat := 544
def theMethod : MethodId := ⟨1, 2⟩
def args0 : Array Value := #[.int 5, .long 5, .long 5, .int 0]
def aboutOver (below : List Frame) : State where
  vm := { classes := classes, interned := interned.toArray }
  heap := heap
  slotsUsed := slotsUsed
  threads := #[{ frames := .invoking theMethod args0 :: below }]
def below0 : List Frame := [.native { method := ⟨0, 0⟩, args := #[] }]
def about1 : State := aboutOver below0
def p0 : Program := .bare "" "" ""
def e0 : Env := launch0.env 0 0 0
theorem w_frames : about1.frames = Frame.invoking theMethod args0 :: below0 := rfl
set_option maxRecDepth 65536 in
theorem w_args : argsFit about1.vm theMethod args0 = true := by decide +kernel
set_option maxRecDepth 65536 in
theorem w_heap : heapFits about1 = true := by decide +kernel
set_option maxRecDepth 65536 in
theorem w_runnable : about1.curStatus? = some .runnable := by decide +kernel
set_option maxRecDepth 65536 in
theorem w_alone : about1.alone = true := by decide +kernel
set_option maxRecDepth 65536 in
theorem w_named : about1.methodNamed? x = some theMethod := by decide +kernel
set_option maxRecDepth 65536 in
theorem w_hears : about1.hears theMethod below0 = true := by decide +kernel
set_option maxRecDepth 65536 in
theorem w_ripe : about1.ripe theMethod args0 below0 = true := by decide +kernel
theorem w_running : about1.status = .running := rfl
set_option maxRecDepth 65536 in
theorem w_room : about1.hasRoom e0.platform room_1 = true :=
  launch0.hasRoom_least _ room_1 (by decide +kernel) (by decide +kernel) (by decide +kernel) (by decide +kernel) (by decide +kernel) (by decide +kernel)
theorem allAtoms_all (ts : List Jvm.Cond) (a : Array Jvm.Value) (st : Jvm.State) : (allAtoms ts).before a st = ts.all (fun c => c.before a st) := by
  induction ts with
  | nil => rfl
  | cons c t ih =>
    show (Jvm.Cond.and c (allAtoms t)).before a st = _
    rw [Jvm.Cond.before_and, ih, List.all_cons]
def words1 : List Jvm.Cond := Jvm.Cond.code x code maxLocals ret :: tables_1
/-- a 'code' word, met by the world's own term for the bytes: nothing is compared byte by byte -/
theorem code_word {y : MethodName} {bytes : ByteArray} {mx : Nat} {rt : Option FieldType} {a : Array Value} {s : State} {m : MethodId} {meth : Method} {c : Code} (h1 : s.methodNamed? y = some m) (h2 : s.vm.method? m = some meth) (h3 : meth.code = some c) (h4 : c.code = bytes)
    (h5 : (c.maxLocals == mx && c.exceptionTable.isEmpty && decide (c.maxStack ≤ mostOperands) && decide (meth.sig.returnType = rt) && !meth.locks && decide (parseMethodDescriptor y.desc = some meth.sig)) = true) : (Jvm.Cond.code y bytes mx rt).before a s = true := by
  simp only [Bool.and_eq_true, beq_iff_eq, Bool.not_eq_true', decide_eq_true_eq] at h5
  obtain ⟨⟨⟨⟨⟨g1, g2⟩, g3⟩, g4⟩, g5⟩, g6⟩ := h5
  simp [Cond.before, Cond.holds, Cond.value, h1, h2, h3, h4, g1, g2, g3, g4, g5, g6]
def isCode : Jvm.Cond → Bool
  | .code _ _ _ _ => true
  | _ => false
theorem all_split {L : List Jvm.Cond} {P : Jvm.Cond → Bool} (h1 : L.all (fun c => isCode c || P c) = true) (h2 : ∀ c ∈ L.filter isCode, P c = true) : L.all P = true := by
  refine List.all_eq_true.mpr fun c hc => ?_
  have h := List.all_eq_true.mp h1 c hc
  rcases Bool.eq_false_or_eq_true (isCode c) with hi | hi
  · exact h2 c (List.mem_filter.mpr ⟨hc, hi⟩)
  · simpa [hi] using h
set_option maxRecDepth 65536 in
theorem w_c0 : (Jvm.Cond.code x code maxLocals ret).before args0 about1 = true := code_word (m := ⟨1, 2⟩) (meth := k1m2) (c := k1c2) (by decide +kernel) rfl rfl rfl (by decide +kernel)
set_option maxRecDepth 65536 in
theorem w_c1 : (Jvm.Cond.code ({ cls := "com/example/tallyhouse/tallyhouse/DecisionAllowedPinLaw", name := "pick", desc := "(I)Lcom/example/tallyhouse/tallyhouse/GuardrailLimits$Reason;" } : Jvm.MethodName) method_2_code (1 : Nat) (Option.some (Jvm.ClassFile.FieldType.object "com/example/tallyhouse/tallyhouse/GuardrailLimits$Reason"))).before args0 about1 = true := code_word (m := ⟨1, 1⟩) (meth := k1m1) (c := k1c1) (by decide +kernel) rfl rfl rfl (by decide +kernel)
set_option maxRecDepth 65536 in
theorem w_c2 : (Jvm.Cond.code ({ cls := "com/example/tallyhouse/tallyhouse/GuardrailLimits$Decision", name := "<init>", desc := "(Lcom/example/tallyhouse/tallyhouse/GuardrailLimits$Reason;JLjava/lang/Long;)V" } : Jvm.MethodName) prog_8_method_1_code (5 : Nat) (Option.none : Option Jvm.ClassFile.FieldType)).before args0 about1 = true := code_word (m := ⟨9, 0⟩) (meth := k9m0) (c := k9c0) (by decide +kernel) rfl rfl rfl (by decide +kernel)
set_option maxRecDepth 65536 in
theorem w_c3 : (Jvm.Cond.code ({ cls := "java/lang/Record", name := "<init>", desc := "()V" } : Jvm.MethodName) jdk_30_method_1_code (1 : Nat) (Option.none : Option Jvm.ClassFile.FieldType)).before args0 about1 = true := code_word (m := ⟨8, 0⟩) (meth := k8m0) (c := k8c0) (by decide +kernel) rfl rfl rfl (by decide +kernel)
set_option maxRecDepth 65536 in
theorem w_c4 : (Jvm.Cond.code ({ cls := "java/lang/Object", name := "<init>", desc := "()V" } : Jvm.MethodName) object_method_1_code (1 : Nat) (Option.none : Option Jvm.ClassFile.FieldType)).before args0 about1 = true := code_word (m := ⟨0, 0⟩) (meth := k0m0) (c := k0c0) (by decide +kernel) rfl rfl rfl (by decide +kernel)
set_option maxRecDepth 65536 in
theorem w_c5 : (Jvm.Cond.code ({ cls := "com/example/tallyhouse/tallyhouse/GuardrailLimits$Decision", name := "allowed", desc := "()Z" } : Jvm.MethodName) prog_8_method_2_code (1 : Nat) (Option.some Jvm.ClassFile.FieldType.boolean)).before args0 about1 = true := code_word (m := ⟨9, 1⟩) (meth := k9m1) (c := k9c1) (by decide +kernel) rfl rfl rfl (by decide +kernel)
set_option maxRecDepth 65536 in
theorem w_c6 : (Jvm.Cond.code ({ cls := "java/lang/Long", name := "valueOf", desc := "(J)Ljava/lang/Long;" } : Jvm.MethodName) jdk_35_method_24_code (3 : Nat) (Option.some (Jvm.ClassFile.FieldType.object "java/lang/Long"))).before args0 about1 = true := code_word (m := ⟨12, 0⟩) (meth := k12m0) (c := k12c0) (by decide +kernel) rfl rfl rfl (by decide +kernel)
set_option maxRecDepth 65536 in
theorem w_c7 : (Jvm.Cond.code ({ cls := "java/lang/Long", name := "<init>", desc := "(J)V" } : Jvm.MethodName) jdk_35_method_26_code (3 : Nat) (Option.none : Option Jvm.ClassFile.FieldType)).before args0 about1 = true := code_word (m := ⟨12, 1⟩) (meth := k12m1) (c := k12c1) (by decide +kernel) rfl rfl rfl (by decide +kernel)
set_option maxRecDepth 65536 in
theorem w_c8 : (Jvm.Cond.code ({ cls := "java/lang/Number", name := "<init>", desc := "()V" } : Jvm.MethodName) jdk_18_method_1_code (1 : Nat) (Option.none : Option Jvm.ClassFile.FieldType)).before args0 about1 = true := code_word (m := ⟨10, 0⟩) (meth := k10m0) (c := k10c0) (by decide +kernel) rfl rfl rfl (by decide +kernel)
def codes1 : List Jvm.Cond := [Jvm.Cond.code x code maxLocals ret, Jvm.Cond.code ({ cls := "com/example/tallyhouse/tallyhouse/DecisionAllowedPinLaw", name := "pick", desc := "(I)Lcom/example/tallyhouse/tallyhouse/GuardrailLimits$Reason;" } : Jvm.MethodName) method_2_code (1 : Nat) (Option.some (Jvm.ClassFile.FieldType.object "com/example/tallyhouse/tallyhouse/GuardrailLimits$Reason")), Jvm.Cond.code ({ cls := "com/example/tallyhouse/tallyhouse/GuardrailLimits$Decision", name := "<init>", desc := "(Lcom/example/tallyhouse/tallyhouse/GuardrailLimits$Reason;JLjava/lang/Long;)V" } : Jvm.MethodName) prog_8_method_1_code (5 : Nat) (Option.none : Option Jvm.ClassFile.FieldType), Jvm.Cond.code ({ cls := "java/lang/Record", name := "<init>", desc := "()V" } : Jvm.MethodName) jdk_30_method_1_code (1 : Nat) (Option.none : Option Jvm.ClassFile.FieldType), Jvm.Cond.code ({ cls := "java/lang/Object", name := "<init>", desc := "()V" } : Jvm.MethodName) object_method_1_code (1 : Nat) (Option.none : Option Jvm.ClassFile.FieldType), Jvm.Cond.code ({ cls := "com/example/tallyhouse/tallyhouse/GuardrailLimits$Decision", name := "allowed", desc := "()Z" } : Jvm.MethodName) prog_8_method_2_code (1 : Nat) (Option.some Jvm.ClassFile.FieldType.boolean), Jvm.Cond.code ({ cls := "java/lang/Long", name := "valueOf", desc := "(J)Ljava/lang/Long;" } : Jvm.MethodName) jdk_35_method_24_code (3 : Nat) (Option.some (Jvm.ClassFile.FieldType.object "java/lang/Long")), Jvm.Cond.code ({ cls := "java/lang/Long", name := "<init>", desc := "(J)V" } : Jvm.MethodName) jdk_35_method_26_code (3 : Nat) (Option.none : Option Jvm.ClassFile.FieldType), Jvm.Cond.code ({ cls := "java/lang/Number", name := "<init>", desc := "()V" } : Jvm.MethodName) jdk_18_method_1_code (1 : Nat) (Option.none : Option Jvm.ClassFile.FieldType)]
set_option maxRecDepth 65536 in
theorem codes_eq : words1.filter isCode = codes1 := rfl
theorem w_codes : ∀ c ∈ words1.filter isCode, c.before args0 about1 = true := by
  rw [codes_eq]
  intro c hc
  simp only [codes1, List.mem_cons, List.not_mem_nil, or_false] at hc
  rcases hc with rfl | rfl | rfl | rfl | rfl | rfl | rfl | rfl | rfl
  · exact w_c0
  · exact w_c1
  · exact w_c2
  · exact w_c3
  · exact w_c4
  · exact w_c5
  · exact w_c6
  · exact w_c7
  · exact w_c8
set_option maxRecDepth 65536 in
theorem w_t1 : (words1.take 24).all (fun c => isCode c || c.before args0 about1) = true := by decide +kernel
set_option maxRecDepth 65536 in
theorem w_t2 : ((words1.drop 24).take 24).all (fun c => isCode c || c.before args0 about1) = true := by decide +kernel
set_option maxRecDepth 65536 in
theorem w_t3 : ((words1.drop 24).drop 24).all (fun c => isCode c || c.before args0 about1) = true := by decide +kernel
theorem w_tables : (allAtoms (Jvm.Cond.code x code maxLocals ret :: tables_1)).before args0 about1 = true := by
  rw [allAtoms_all]
  show words1.all (fun c => c.before args0 about1) = true
  refine all_split ?_ w_codes
  rw [← List.take_append_drop 24 words1, List.all_append, w_t1, ← List.take_append_drop 24 (words1.drop 24), List.all_append, w_t2, w_t3]
  rfl
set_option maxRecDepth 65536 in
theorem w_rest : rest_1_c.before args0 about1 = true := by decide +kernel
set_option maxRecDepth 65536 in
theorem w_case : (Jvm.Cond.and given_1 narrow_1).before args0 about1 = true := by decide +kernel
theorem w_applies : (headSpec (Jvm.Cond.code x code maxLocals ret :: tables_1) room_1).applies x e0.platform about1 = true :=
  (Spec.applies_iff w_frames).mpr ⟨w_running, w_runnable, w_alone, w_named, w_hears, w_ripe, w_room, w_tables⟩
theorem atStart : AtStart classFile x code maxLocals ret World_1 tables_1 room_1 Calls_1 rest_1 Pre_1 launch0 p0 e0 about1 theMethod args0 below0 :=
  ⟨lists_1, trivial, launch0.admits_env _ _ _, launch0.least_env, fairChoices_fair.cas, fairChoices_fair.clock, w_frames, w_args, w_heap, w_applies, trivial, w_rest, w_case⟩
end start1
theorem witness_1 : WitnessClaimed_1 := ⟨start1.p0, start1.e0, start1.about1, start1.theMethod, start1.args0, start1.below0, start1.atStart⟩
end Jvm.Pilot.@@N@@
