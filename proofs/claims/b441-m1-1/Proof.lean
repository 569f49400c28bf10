import JvmDerived
import JvmDerived.Pilot.@@N@@Statement
import JvmDerived.Pilot.@@N@@Code
set_option linter.unusedVariables false
set_option linter.unusedSimpArgs false
namespace Jvm.Pilot.@@N@@
open Jvm Jvm.ClassFile Sem Op Lib Jvm.Free Jvm.Stand Jvm.LawKit Jvm.RoadKit Bundle Jvm.Pilot.@@N@@.Jvm.D
theorem own_sz {Z : State} {n0 : Nat} {h : Heap} (O : Old Z n0 h) : n0 ≤ h.size := O.1 ▸ O.2.1
theorem own_sta {args : Array Value} {s : State} {C n d K : String} (h : (Jvm.Cond.exactly (.static C n d) K).value args s none s [] = some true) (hi : (Jvm.Cond.initialized C).before args s = true) (hl : (Jvm.Cond.laysStatic C n d).before args s = true) :
    ∃ a, Sta s s.heap C n d (.ref a) ∧ Exa s s.heap a K ∧ (Term.static C n d).eval args s none [] s = some (.ref a) := by
  obtain ⟨a, ev⟩ := exa_v h
  exact ⟨a, Sta.start ev (Or.inr ⟨hi, hl⟩), Exa.start ev h, ev⟩
theorem own_fint {args : Array Value} {s : State} {t : Term} {a : Addr} {C n d : String} {k : Int32} (ev : t.eval args s none [] s = some (.ref a)) (h : (Jvm.Cond.eq (.field t C n d) (.int k)).value args s none s [] = some true) : Fld s s.heap a C n d (.int k) := by
  obtain ⟨x, y, h1, h2, -, -⟩ := cmp_v (Or.inl h)
  cases h2.symm.trans (Term.int_eval k)
  have h3 := h1
  rw [fld_at ev] at h3
  have : x = .int k := by
    cases x <;> simp_all [Cond.value, Term.eval]
  subst this
  exact Fld.start h3
theorem own_fnull {args : Array Value} {s : State} {t : Term} {a : Addr} {C n d : String} (ev : t.eval args s none [] s = some (.ref a)) (h : (Jvm.Cond.eq (.field t C n d) .null).value args s none s [] = some true) : Fld s s.heap a C n d .null := by
  have h1 := null_v h
  rw [fld_at ev] at h1
  exact Fld.start h1
theorem own_fexa {args : Array Value} {s : State} {t : Term} {a : Addr} {C n d K : String} (ev : t.eval args s none [] s = some (.ref a)) (h : (Jvm.Cond.exactly (.field t C n d) K).value args s none s [] = some true) :
    ∃ b, Fld s s.heap a C n d (.ref b) ∧ Exa s s.heap b K ∧ (Term.field t C n d).eval args s none [] s = some (.ref b) := by
  obtain ⟨b, e2⟩ := exa_v h
  have h1 := e2
  rw [fld_at ev] at h1
  exact ⟨b, Fld.start h1, Exa.start e2 h, e2⟩
theorem own_freq {args : Array Value} {s : State} {t u : Term} {a b : Addr} {C n d : String} (ev : t.eval args s none [] s = some (.ref a)) (eu : u.eval args s none [] s = some (.ref b)) (h : (Jvm.Cond.eq (.field t C n d) u).value args s none s [] = some true) : Fld s s.heap a C n d (.ref b) := by
  obtain ⟨x, y, h1, h2, -, -⟩ := cmp_v (Or.inl h)
  cases h2.symm.trans eu
  have h3 := h1
  rw [fld_at ev] at h3
  have : x = .ref b := by
    cases x <;> simp_all [Cond.value]
  subst this
  exact Fld.start h3
theorem own_nn {v : Value} {a : Addr} (h : v = .ref a) : ¬ v = Value.null := by rw [h]; exact nofun
theorem own_nref {n : String} {v : Value} (h : v.isRef = true) : narrow (.object n) v = v := by rcases ref_cases h with rfl | ⟨_, rfl⟩ <;> rfl
theorem own_fref {n : String} {v : Value} (h : v.isRef = true) : fits (.object n) v = true := by rcases ref_cases h with rfl | ⟨_, rfl⟩ <;> rfl
theorem own_nb {z : Int32} (h : z = 0 ∨ z = 1) : narrow .boolean (.int z) = .int z := by rcases h with rfl | rfl <;> rfl
theorem ow0 {a0 : Array Value} {Z : State} (hw : ∀ d ∈ tables_1, d.before a0 Z = true) : (Jvm.Cond.constant "com/example/tx_at_boundaries/txatboundaries/boundary/PropagationDecidePinLaw" (58 : Nat) (2147483647 : Int32)).before a0 Z = true := hw _ (List.mem_of_getElem? (i := 0) rfl)
theorem ow1 {a0 : Array Value} {Z : State} (hw : ∀ d ∈ tables_1, d.before a0 Z = true) : (Jvm.Cond.methodLink "com/example/tx_at_boundaries/txatboundaries/boundary/PropagationDecidePinLaw" (59 : Nat) ({ cls := "com/example/tx_at_boundaries/txatboundaries/boundary/PropagationDecidePinLaw", name := "pick", desc := "(I)Lcom/example/tx_at_boundaries/txatboundaries/boundary/Propagation;" } : Jvm.MethodName)).before a0 Z = true := hw _ (List.mem_of_getElem? (i := 1) rfl)
theorem ow2 {a0 : Array Value} {Z : State} (hw : ∀ d ∈ tables_1, d.before a0 Z = true) : (Jvm.Cond.static ({ cls := "com/example/tx_at_boundaries/txatboundaries/boundary/PropagationDecidePinLaw", name := "pick", desc := "(I)Lcom/example/tx_at_boundaries/txatboundaries/boundary/Propagation;" } : Jvm.MethodName)).before a0 Z = true := hw _ (List.mem_of_getElem? (i := 2) rfl)
theorem ow3 {a0 : Array Value} {Z : State} (hw : ∀ d ∈ tables_1, d.before a0 Z = true) : (Jvm.Cond.initialized "com/example/tx_at_boundaries/txatboundaries/boundary/PropagationDecidePinLaw").before a0 Z = true := hw _ (List.mem_of_getElem? (i := 3) rfl)
theorem ow4 {a0 : Array Value} {Z : State} (hw : ∀ d ∈ tables_1, d.before a0 Z = true) : (Jvm.Cond.code ({ cls := "com/example/tx_at_boundaries/txatboundaries/boundary/PropagationDecidePinLaw", name := "pick", desc := "(I)Lcom/example/tx_at_boundaries/txatboundaries/boundary/Propagation;" } : Jvm.MethodName) method_2_code (1 : Nat) (Option.some (Jvm.ClassFile.FieldType.object "com/example/tx_at_boundaries/txatboundaries/boundary/Propagation"))).before a0 Z = true := hw _ (List.mem_of_getElem? (i := 4) rfl)
theorem ow5 {a0 : Array Value} {Z : State} (hw : ∀ d ∈ tables_1, d.before a0 Z = true) : (Jvm.Cond.fieldLink "com/example/tx_at_boundaries/txatboundaries/boundary/PropagationDecidePinLaw" (7 : Nat) "com/example/tx_at_boundaries/txatboundaries/boundary/Propagation" "REQUIRED" "Lcom/example/tx_at_boundaries/txatboundaries/boundary/Propagation;").before a0 Z = true := hw _ (List.mem_of_getElem? (i := 5) rfl)
theorem ow6 {a0 : Array Value} {Z : State} (hw : ∀ d ∈ tables_1, d.before a0 Z = true) : (Jvm.Cond.initialized "com/example/tx_at_boundaries/txatboundaries/boundary/Propagation").before a0 Z = true := hw _ (List.mem_of_getElem? (i := 6) rfl)
theorem ow7 {a0 : Array Value} {Z : State} (hw : ∀ d ∈ tables_1, d.before a0 Z = true) : (Jvm.Cond.laysStatic "com/example/tx_at_boundaries/txatboundaries/boundary/Propagation" "REQUIRED" "Lcom/example/tx_at_boundaries/txatboundaries/boundary/Propagation;").before a0 Z = true := hw _ (List.mem_of_getElem? (i := 7) rfl)
theorem ow8 {a0 : Array Value} {Z : State} (hw : ∀ d ∈ tables_1, d.before a0 Z = true) : (Jvm.Cond.methodLink "com/example/tx_at_boundaries/txatboundaries/boundary/PropagationDecidePinLaw" (65 : Nat) ({ cls := "com/example/tx_at_boundaries/txatboundaries/boundary/Propagation", name := "decide", desc := "(Z)Lcom/example/tx_at_boundaries/txatboundaries/boundary/Propagation$Action;" } : Jvm.MethodName)).before a0 Z = true := hw _ (List.mem_of_getElem? (i := 8) rfl)
theorem ow9 {a0 : Array Value} {Z : State} (hw : ∀ d ∈ tables_1, d.before a0 Z = true) : (Jvm.Cond.declares ({ cls := "com/example/tx_at_boundaries/txatboundaries/boundary/Propagation", name := "decide", desc := "(Z)Lcom/example/tx_at_boundaries/txatboundaries/boundary/Propagation$Action;" } : Jvm.MethodName)).before a0 Z = true := hw _ (List.mem_of_getElem? (i := 9) rfl)
theorem ow10 {a0 : Array Value} {Z : State} (hw : ∀ d ∈ tables_1, d.before a0 Z = true) : (Jvm.Cond.instanceMethod ({ cls := "com/example/tx_at_boundaries/txatboundaries/boundary/Propagation", name := "decide", desc := "(Z)Lcom/example/tx_at_boundaries/txatboundaries/boundary/Propagation$Action;" } : Jvm.MethodName)).before a0 Z = true := hw _ (List.mem_of_getElem? (i := 10) rfl)
theorem ow11 {a0 : Array Value} {Z : State} (hw : ∀ d ∈ tables_1, d.before a0 Z = true) : (Jvm.Cond.selects "com/example/tx_at_boundaries/txatboundaries/boundary/Propagation" ({ cls := "com/example/tx_at_boundaries/txatboundaries/boundary/Propagation", name := "decide", desc := "(Z)Lcom/example/tx_at_boundaries/txatboundaries/boundary/Propagation$Action;" } : Jvm.MethodName) ({ cls := "com/example/tx_at_boundaries/txatboundaries/boundary/Propagation", name := "decide", desc := "(Z)Lcom/example/tx_at_boundaries/txatboundaries/boundary/Propagation$Action;" } : Jvm.MethodName)).before a0 Z = true := hw _ (List.mem_of_getElem? (i := 11) rfl)
theorem ow12 {a0 : Array Value} {Z : State} (hw : ∀ d ∈ tables_1, d.before a0 Z = true) : (Jvm.Cond.code ({ cls := "com/example/tx_at_boundaries/txatboundaries/boundary/Propagation", name := "decide", desc := "(Z)Lcom/example/tx_at_boundaries/txatboundaries/boundary/Propagation$Action;" } : Jvm.MethodName) prog_10_method_4_code (2 : Nat) (Option.some (Jvm.ClassFile.FieldType.object "com/example/tx_at_boundaries/txatboundaries/boundary/Propagation$Action"))).before a0 Z = true := hw _ (List.mem_of_getElem? (i := 12) rfl)
theorem ow13 {a0 : Array Value} {Z : State} (hw : ∀ d ∈ tables_1, d.before a0 Z = true) : (Jvm.Cond.fieldLink "com/example/tx_at_boundaries/txatboundaries/boundary/Propagation" (44 : Nat) "com/example/tx_at_boundaries/txatboundaries/boundary/Propagation" "whenRunning" "Lcom/example/tx_at_boundaries/txatboundaries/boundary/Propagation$Action;").before a0 Z = true := hw _ (List.mem_of_getElem? (i := 13) rfl)
theorem ow15 {a0 : Array Value} {Z : State} (hw : ∀ d ∈ tables_1, d.before a0 Z = true) : (Jvm.Cond.initialized "com/example/tx_at_boundaries/txatboundaries/boundary/Propagation$Action").before a0 Z = true := hw _ (List.mem_of_getElem? (i := 15) rfl)
theorem ow16 {a0 : Array Value} {Z : State} (hw : ∀ d ∈ tables_1, d.before a0 Z = true) : (Jvm.Cond.laysStatic "com/example/tx_at_boundaries/txatboundaries/boundary/Propagation$Action" "JOIN" "Lcom/example/tx_at_boundaries/txatboundaries/boundary/Propagation$Action;").before a0 Z = true := hw _ (List.mem_of_getElem? (i := 16) rfl)
theorem ow17 {a0 : Array Value} {Z : State} (hw : ∀ d ∈ tables_1, d.before a0 Z = true) : (Jvm.Cond.methodLink "com/example/tx_at_boundaries/txatboundaries/boundary/PropagationDecidePinLaw" (69 : Nat) ({ cls := "com/example/tx_at_boundaries/txatboundaries/boundary/PropagationDecidePinLaw", name := "expected", desc := "(IZ)Lcom/example/tx_at_boundaries/txatboundaries/boundary/Propagation$Action;" } : Jvm.MethodName)).before a0 Z = true := hw _ (List.mem_of_getElem? (i := 17) rfl)
theorem ow18 {a0 : Array Value} {Z : State} (hw : ∀ d ∈ tables_1, d.before a0 Z = true) : (Jvm.Cond.static ({ cls := "com/example/tx_at_boundaries/txatboundaries/boundary/PropagationDecidePinLaw", name := "expected", desc := "(IZ)Lcom/example/tx_at_boundaries/txatboundaries/boundary/Propagation$Action;" } : Jvm.MethodName)).before a0 Z = true := hw _ (List.mem_of_getElem? (i := 18) rfl)
theorem ow19 {a0 : Array Value} {Z : State} (hw : ∀ d ∈ tables_1, d.before a0 Z = true) : (Jvm.Cond.code ({ cls := "com/example/tx_at_boundaries/txatboundaries/boundary/PropagationDecidePinLaw", name := "expected", desc := "(IZ)Lcom/example/tx_at_boundaries/txatboundaries/boundary/Propagation$Action;" } : Jvm.MethodName) method_3_code (2 : Nat) (Option.some (Jvm.ClassFile.FieldType.object "com/example/tx_at_boundaries/txatboundaries/boundary/Propagation$Action"))).before a0 Z = true := hw _ (List.mem_of_getElem? (i := 19) rfl)
theorem ow20 {a0 : Array Value} {Z : State} (hw : ∀ d ∈ tables_1, d.before a0 Z = true) : (Jvm.Cond.fieldLink "com/example/tx_at_boundaries/txatboundaries/boundary/PropagationDecidePinLaw" (31 : Nat) "com/example/tx_at_boundaries/txatboundaries/boundary/Propagation$Action" "JOIN" "Lcom/example/tx_at_boundaries/txatboundaries/boundary/Propagation$Action;").before a0 Z = true := hw _ (List.mem_of_getElem? (i := 20) rfl)
theorem ow21 {a0 : Array Value} {Z : State} (hw : ∀ d ∈ tables_1, d.before a0 Z = true) : (Jvm.Cond.fieldLink "com/example/tx_at_boundaries/txatboundaries/boundary/PropagationDecidePinLaw" (19 : Nat) "com/example/tx_at_boundaries/txatboundaries/boundary/Propagation" "REQUIRES_NEW" "Lcom/example/tx_at_boundaries/txatboundaries/boundary/Propagation;").before a0 Z = true := hw _ (List.mem_of_getElem? (i := 21) rfl)
theorem ow22 {a0 : Array Value} {Z : State} (hw : ∀ d ∈ tables_1, d.before a0 Z = true) : (Jvm.Cond.laysStatic "com/example/tx_at_boundaries/txatboundaries/boundary/Propagation" "REQUIRES_NEW" "Lcom/example/tx_at_boundaries/txatboundaries/boundary/Propagation;").before a0 Z = true := hw _ (List.mem_of_getElem? (i := 22) rfl)
theorem ow23 {a0 : Array Value} {Z : State} (hw : ∀ d ∈ tables_1, d.before a0 Z = true) : (Jvm.Cond.laysStatic "com/example/tx_at_boundaries/txatboundaries/boundary/Propagation$Action" "SUSPEND_AND_START" "Lcom/example/tx_at_boundaries/txatboundaries/boundary/Propagation$Action;").before a0 Z = true := hw _ (List.mem_of_getElem? (i := 23) rfl)
theorem ow24 {a0 : Array Value} {Z : State} (hw : ∀ d ∈ tables_1, d.before a0 Z = true) : (Jvm.Cond.fieldLink "com/example/tx_at_boundaries/txatboundaries/boundary/PropagationDecidePinLaw" (37 : Nat) "com/example/tx_at_boundaries/txatboundaries/boundary/Propagation$Action" "SUSPEND_AND_START" "Lcom/example/tx_at_boundaries/txatboundaries/boundary/Propagation$Action;").before a0 Z = true := hw _ (List.mem_of_getElem? (i := 24) rfl)
theorem ow25 {a0 : Array Value} {Z : State} (hw : ∀ d ∈ tables_1, d.before a0 Z = true) : (Jvm.Cond.fieldLink "com/example/tx_at_boundaries/txatboundaries/boundary/PropagationDecidePinLaw" (13 : Nat) "com/example/tx_at_boundaries/txatboundaries/boundary/Propagation" "SUPPORTS" "Lcom/example/tx_at_boundaries/txatboundaries/boundary/Propagation;").before a0 Z = true := hw _ (List.mem_of_getElem? (i := 25) rfl)
theorem ow26 {a0 : Array Value} {Z : State} (hw : ∀ d ∈ tables_1, d.before a0 Z = true) : (Jvm.Cond.laysStatic "com/example/tx_at_boundaries/txatboundaries/boundary/Propagation" "SUPPORTS" "Lcom/example/tx_at_boundaries/txatboundaries/boundary/Propagation;").before a0 Z = true := hw _ (List.mem_of_getElem? (i := 26) rfl)
theorem ow27 {a0 : Array Value} {Z : State} (hw : ∀ d ∈ tables_1, d.before a0 Z = true) : (Jvm.Cond.fieldLink "com/example/tx_at_boundaries/txatboundaries/boundary/Propagation" (48 : Nat) "com/example/tx_at_boundaries/txatboundaries/boundary/Propagation" "whenNoneRunning" "Lcom/example/tx_at_boundaries/txatboundaries/boundary/Propagation$Action;").before a0 Z = true := hw _ (List.mem_of_getElem? (i := 27) rfl)
theorem ow29 {a0 : Array Value} {Z : State} (hw : ∀ d ∈ tables_1, d.before a0 Z = true) : (Jvm.Cond.laysStatic "com/example/tx_at_boundaries/txatboundaries/boundary/Propagation$Action" "RUN_WITHOUT" "Lcom/example/tx_at_boundaries/txatboundaries/boundary/Propagation$Action;").before a0 Z = true := hw _ (List.mem_of_getElem? (i := 29) rfl)
theorem ow30 {a0 : Array Value} {Z : State} (hw : ∀ d ∈ tables_1, d.before a0 Z = true) : (Jvm.Cond.fieldLink "com/example/tx_at_boundaries/txatboundaries/boundary/PropagationDecidePinLaw" (55 : Nat) "com/example/tx_at_boundaries/txatboundaries/boundary/Propagation$Action" "RUN_WITHOUT" "Lcom/example/tx_at_boundaries/txatboundaries/boundary/Propagation$Action;").before a0 Z = true := hw _ (List.mem_of_getElem? (i := 30) rfl)
theorem ow31 {a0 : Array Value} {Z : State} (hw : ∀ d ∈ tables_1, d.before a0 Z = true) : (Jvm.Cond.fieldLink "com/example/tx_at_boundaries/txatboundaries/boundary/PropagationDecidePinLaw" (22 : Nat) "com/example/tx_at_boundaries/txatboundaries/boundary/Propagation" "NOT_SUPPORTED" "Lcom/example/tx_at_boundaries/txatboundaries/boundary/Propagation;").before a0 Z = true := hw _ (List.mem_of_getElem? (i := 31) rfl)
theorem ow32 {a0 : Array Value} {Z : State} (hw : ∀ d ∈ tables_1, d.before a0 Z = true) : (Jvm.Cond.laysStatic "com/example/tx_at_boundaries/txatboundaries/boundary/Propagation" "NOT_SUPPORTED" "Lcom/example/tx_at_boundaries/txatboundaries/boundary/Propagation;").before a0 Z = true := hw _ (List.mem_of_getElem? (i := 32) rfl)
theorem ow33 {a0 : Array Value} {Z : State} (hw : ∀ d ∈ tables_1, d.before a0 Z = true) : (Jvm.Cond.laysStatic "com/example/tx_at_boundaries/txatboundaries/boundary/Propagation$Action" "SUSPEND_AND_RUN_WITHOUT" "Lcom/example/tx_at_boundaries/txatboundaries/boundary/Propagation$Action;").before a0 Z = true := hw _ (List.mem_of_getElem? (i := 33) rfl)
theorem ow34 {a0 : Array Value} {Z : State} (hw : ∀ d ∈ tables_1, d.before a0 Z = true) : (Jvm.Cond.fieldLink "com/example/tx_at_boundaries/txatboundaries/boundary/PropagationDecidePinLaw" (40 : Nat) "com/example/tx_at_boundaries/txatboundaries/boundary/Propagation$Action" "SUSPEND_AND_RUN_WITHOUT" "Lcom/example/tx_at_boundaries/txatboundaries/boundary/Propagation$Action;").before a0 Z = true := hw _ (List.mem_of_getElem? (i := 34) rfl)
theorem ow35 {a0 : Array Value} {Z : State} (hw : ∀ d ∈ tables_1, d.before a0 Z = true) : (Jvm.Cond.fieldLink "com/example/tx_at_boundaries/txatboundaries/boundary/PropagationDecidePinLaw" (28 : Nat) "com/example/tx_at_boundaries/txatboundaries/boundary/Propagation" "NESTED" "Lcom/example/tx_at_boundaries/txatboundaries/boundary/Propagation;").before a0 Z = true := hw _ (List.mem_of_getElem? (i := 35) rfl)
theorem ow36 {a0 : Array Value} {Z : State} (hw : ∀ d ∈ tables_1, d.before a0 Z = true) : (Jvm.Cond.laysStatic "com/example/tx_at_boundaries/txatboundaries/boundary/Propagation" "NESTED" "Lcom/example/tx_at_boundaries/txatboundaries/boundary/Propagation;").before a0 Z = true := hw _ (List.mem_of_getElem? (i := 36) rfl)
theorem ow37 {a0 : Array Value} {Z : State} (hw : ∀ d ∈ tables_1, d.before a0 Z = true) : (Jvm.Cond.laysStatic "com/example/tx_at_boundaries/txatboundaries/boundary/Propagation$Action" "START" "Lcom/example/tx_at_boundaries/txatboundaries/boundary/Propagation$Action;").before a0 Z = true := hw _ (List.mem_of_getElem? (i := 37) rfl)
theorem ow38 {a0 : Array Value} {Z : State} (hw : ∀ d ∈ tables_1, d.before a0 Z = true) : (Jvm.Cond.fieldLink "com/example/tx_at_boundaries/txatboundaries/boundary/PropagationDecidePinLaw" (49 : Nat) "com/example/tx_at_boundaries/txatboundaries/boundary/Propagation$Action" "START" "Lcom/example/tx_at_boundaries/txatboundaries/boundary/Propagation$Action;").before a0 Z = true := hw _ (List.mem_of_getElem? (i := 38) rfl)
theorem ow39 {a0 : Array Value} {Z : State} (hw : ∀ d ∈ tables_1, d.before a0 Z = true) : (Jvm.Cond.fieldLink "com/example/tx_at_boundaries/txatboundaries/boundary/PropagationDecidePinLaw" (25 : Nat) "com/example/tx_at_boundaries/txatboundaries/boundary/Propagation" "NEVER" "Lcom/example/tx_at_boundaries/txatboundaries/boundary/Propagation;").before a0 Z = true := hw _ (List.mem_of_getElem? (i := 39) rfl)
theorem ow40 {a0 : Array Value} {Z : State} (hw : ∀ d ∈ tables_1, d.before a0 Z = true) : (Jvm.Cond.laysStatic "com/example/tx_at_boundaries/txatboundaries/boundary/Propagation" "NEVER" "Lcom/example/tx_at_boundaries/txatboundaries/boundary/Propagation;").before a0 Z = true := hw _ (List.mem_of_getElem? (i := 40) rfl)
theorem ow41 {a0 : Array Value} {Z : State} (hw : ∀ d ∈ tables_1, d.before a0 Z = true) : (Jvm.Cond.laysStatic "com/example/tx_at_boundaries/txatboundaries/boundary/Propagation$Action" "REFUSE_RUNNING" "Lcom/example/tx_at_boundaries/txatboundaries/boundary/Propagation$Action;").before a0 Z = true := hw _ (List.mem_of_getElem? (i := 41) rfl)
theorem ow42 {a0 : Array Value} {Z : State} (hw : ∀ d ∈ tables_1, d.before a0 Z = true) : (Jvm.Cond.fieldLink "com/example/tx_at_boundaries/txatboundaries/boundary/PropagationDecidePinLaw" (43 : Nat) "com/example/tx_at_boundaries/txatboundaries/boundary/Propagation$Action" "REFUSE_RUNNING" "Lcom/example/tx_at_boundaries/txatboundaries/boundary/Propagation$Action;").before a0 Z = true := hw _ (List.mem_of_getElem? (i := 42) rfl)
theorem ow43 {a0 : Array Value} {Z : State} (hw : ∀ d ∈ tables_1, d.before a0 Z = true) : (Jvm.Cond.fieldLink "com/example/tx_at_boundaries/txatboundaries/boundary/PropagationDecidePinLaw" (16 : Nat) "com/example/tx_at_boundaries/txatboundaries/boundary/Propagation" "MANDATORY" "Lcom/example/tx_at_boundaries/txatboundaries/boundary/Propagation;").before a0 Z = true := hw _ (List.mem_of_getElem? (i := 43) rfl)
theorem ow44 {a0 : Array Value} {Z : State} (hw : ∀ d ∈ tables_1, d.before a0 Z = true) : (Jvm.Cond.laysStatic "com/example/tx_at_boundaries/txatboundaries/boundary/Propagation" "MANDATORY" "Lcom/example/tx_at_boundaries/txatboundaries/boundary/Propagation;").before a0 Z = true := hw _ (List.mem_of_getElem? (i := 44) rfl)
theorem ow45 {a0 : Array Value} {Z : State} (hw : ∀ d ∈ tables_1, d.before a0 Z = true) : (Jvm.Cond.laysStatic "com/example/tx_at_boundaries/txatboundaries/boundary/Propagation$Action" "REFUSE_NONE_RUNNING" "Lcom/example/tx_at_boundaries/txatboundaries/boundary/Propagation$Action;").before a0 Z = true := hw _ (List.mem_of_getElem? (i := 45) rfl)
theorem ow46 {a0 : Array Value} {Z : State} (hw : ∀ d ∈ tables_1, d.before a0 Z = true) : (Jvm.Cond.fieldLink "com/example/tx_at_boundaries/txatboundaries/boundary/PropagationDecidePinLaw" (52 : Nat) "com/example/tx_at_boundaries/txatboundaries/boundary/Propagation$Action" "REFUSE_NONE_RUNNING" "Lcom/example/tx_at_boundaries/txatboundaries/boundary/Propagation$Action;").before a0 Z = true := hw _ (List.mem_of_getElem? (i := 46) rfl)
theorem ow47 {a0 : Array Value} {Z : State} (hw : ∀ d ∈ tables_1, d.before a0 Z = true) : (Jvm.Cond.laysStatic "com/example/tx_at_boundaries/txatboundaries/boundary/Propagation$Action" "NEST" "Lcom/example/tx_at_boundaries/txatboundaries/boundary/Propagation$Action;").before a0 Z = true := hw _ (List.mem_of_getElem? (i := 47) rfl)
theorem ow48 {a0 : Array Value} {Z : State} (hw : ∀ d ∈ tables_1, d.before a0 Z = true) : (Jvm.Cond.fieldLink "com/example/tx_at_boundaries/txatboundaries/boundary/PropagationDecidePinLaw" (46 : Nat) "com/example/tx_at_boundaries/txatboundaries/boundary/Propagation$Action" "NEST" "Lcom/example/tx_at_boundaries/txatboundaries/boundary/Propagation$Action;").before a0 Z = true := hw _ (List.mem_of_getElem? (i := 48) rfl)
theorem pd0 : parseMethodDescriptor "(I)Lcom/example/tx_at_boundaries/txatboundaries/boundary/Propagation;" = some ⟨[.int], some (.object "com/example/tx_at_boundaries/txatboundaries/boundary/Propagation")⟩ := by decide +kernel
theorem pd1 : parseMethodDescriptor "(Z)Lcom/example/tx_at_boundaries/txatboundaries/boundary/Propagation$Action;" = some ⟨[.boolean], some (.object "com/example/tx_at_boundaries/txatboundaries/boundary/Propagation$Action")⟩ := by decide +kernel
theorem pd2 : parseMethodDescriptor "(IZ)Lcom/example/tx_at_boundaries/txatboundaries/boundary/Propagation$Action;" = some ⟨[.int, .boolean], some (.object "com/example/tx_at_boundaries/txatboundaries/boundary/Propagation$Action")⟩ := by decide +kernel
theorem pn0 : plainName "com/example/tx_at_boundaries/txatboundaries/boundary/PropagationDecidePinLaw" = true := by first | (simp [plainName, overriddenIn]; done) | decide +kernel
theorem pn1 : plainName "com/example/tx_at_boundaries/txatboundaries/boundary/Propagation" = true := by first | (simp [plainName, overriddenIn]; done) | decide +kernel
def pk {α : Type} (k : Int32) (w0 w1 w2 w3 w4 w5 w6 : α) : α := if k = 0 then w0 else if k = 1 then w1 else if k = 2 then w2 else if k = 3 then w3 else if k = 4 then w4 else if k = 5 then w5 else w6
theorem own_pkE {Z : State} {C : String} (k : Int32) {w0 w1 w2 w3 w4 w5 w6 : Addr} (E0 : Exa Z Z.heap w0 C) (E1 : Exa Z Z.heap w1 C) (E2 : Exa Z Z.heap w2 C) (E3 : Exa Z Z.heap w3 C) (E4 : Exa Z Z.heap w4 C) (E5 : Exa Z Z.heap w5 C) (E6 : Exa Z Z.heap w6 C) : Exa Z Z.heap (pk k w0 w1 w2 w3 w4 w5 w6) C := by
  unfold pk
  split; · exact E0
  split; · exact E1
  split; · exact E2
  split; · exact E3
  split; · exact E4
  split; · exact E5
  exact E6
theorem own_pkF {Z : State} {C n d : String} (k : Int32) {w0 w1 w2 w3 w4 w5 w6 : Addr} {v0 v1 v2 v3 v4 v5 v6 : Value} (E0 : Fld Z Z.heap w0 C n d v0) (E1 : Fld Z Z.heap w1 C n d v1) (E2 : Fld Z Z.heap w2 C n d v2) (E3 : Fld Z Z.heap w3 C n d v3) (E4 : Fld Z Z.heap w4 C n d v4) (E5 : Fld Z Z.heap w5 C n d v5) (E6 : Fld Z Z.heap w6 C n d v6) : Fld Z Z.heap (pk k w0 w1 w2 w3 w4 w5 w6) C n d (pk k v0 v1 v2 v3 v4 v5 v6) := by
  unfold pk
  split; · exact E0
  split; · exact E1
  split; · exact E2
  split; · exact E3
  split; · exact E4
  split; · exact E5
  exact E6
theorem own_pkr (k : Int32) (w0 w1 w2 w3 w4 w5 w6 : Addr) : pk k (Value.ref w0) (Value.ref w1) (Value.ref w2) (Value.ref w3) (Value.ref w4) (Value.ref w5) (Value.ref w6) = .ref (pk k w0 w1 w2 w3 w4 w5 w6) := by
  unfold pk
  repeat' split
  all_goals rfl
theorem own_mod7 {x i : Int32} (h : i = (x &&& (2147483647 : Int32)) % (7 : Int32)) : i = 0 ∨ i = 1 ∨ i = 2 ∨ i = 3 ∨ i = 4 ∨ i = 5 ∨ i = 6 := by
  have h1 := c_mask x 2147483647 31 (by decide) (by decide)
  have h2 := (c_irem (x &&& 2147483647) 7 7 rfl).1 (by omega)
  rw [← h] at h2
  have h3 : i.toInt = 0 ∨ i.toInt = 1 ∨ i.toInt = 2 ∨ i.toInt = 3 ∨ i.toInt = 4 ∨ i.toInt = 5 ∨ i.toInt = 6 := by omega
  rcases h3 with h | h | h | h | h | h | h
  · exact Or.inl (Int32.toInt_inj.mp h)
  · exact Or.inr (Or.inl (Int32.toInt_inj.mp h))
  · exact Or.inr (Or.inr (Or.inl (Int32.toInt_inj.mp h)))
  · exact Or.inr (Or.inr (Or.inr (Or.inl (Int32.toInt_inj.mp h))))
  · exact Or.inr (Or.inr (Or.inr (Or.inr (Or.inl (Int32.toInt_inj.mp h)))))
  · exact Or.inr (Or.inr (Or.inr (Or.inr (Or.inr (Or.inl (Int32.toInt_inj.mp h))))))
  · exact Or.inr (Or.inr (Or.inr (Or.inr (Or.inr (Or.inr (Int32.toInt_inj.mp h))))))
def dc (r : Int32) (wr wn : Addr) : Addr := if r = 0 then wn else wr
def ex (k r : Int32) (jo ss sr rr ne st rn rw : Addr) : Addr := if r = 0 then (if k = 0 then st else if k = 3 then st else if k = 6 then st else if k = 2 then rn else rw) else (if k = 0 then jo else if k = 1 then jo else if k = 2 then jo else if k = 3 then ss else if k = 4 then sr else if k = 5 then rr else ne)
theorem d_method_2_code_0 : decode method_2_code 0 = .ok (.iload_n 0, 1) := by decide +kernel
theorem d_method_2_code_1 : decode method_2_code 1 = .ok (.ifCond .ne 7, 3) := by decide +kernel
theorem d_method_2_code_4 : decode method_2_code 4 = .ok (.getstatic 7, 3) := by decide +kernel
theorem d_method_2_code_7 : decode method_2_code 7 = .ok (.areturn, 1) := by decide +kernel
theorem d_method_2_code_8 : decode method_2_code 8 = .ok (.iload_n 0, 1) := by decide +kernel
theorem d_method_2_code_9 : decode method_2_code 9 = .ok (.iconst 1, 1) := by decide +kernel
theorem d_method_2_code_10 : decode method_2_code 10 = .ok (.if_icmp .ne 7, 3) := by decide +kernel
theorem d_method_2_code_13 : decode method_2_code 13 = .ok (.getstatic 13, 3) := by decide +kernel
theorem d_method_2_code_16 : decode method_2_code 16 = .ok (.areturn, 1) := by decide +kernel
theorem d_method_2_code_17 : decode method_2_code 17 = .ok (.iload_n 0, 1) := by decide +kernel
theorem d_method_2_code_18 : decode method_2_code 18 = .ok (.iconst 2, 1) := by decide +kernel
theorem d_method_2_code_19 : decode method_2_code 19 = .ok (.if_icmp .ne 7, 3) := by decide +kernel
theorem d_method_2_code_22 : decode method_2_code 22 = .ok (.getstatic 16, 3) := by decide +kernel
theorem d_method_2_code_25 : decode method_2_code 25 = .ok (.areturn, 1) := by decide +kernel
theorem d_method_2_code_26 : decode method_2_code 26 = .ok (.iload_n 0, 1) := by decide +kernel
theorem d_method_2_code_27 : decode method_2_code 27 = .ok (.iconst 3, 1) := by decide +kernel
theorem d_method_2_code_28 : decode method_2_code 28 = .ok (.if_icmp .ne 7, 3) := by decide +kernel
theorem d_method_2_code_31 : decode method_2_code 31 = .ok (.getstatic 19, 3) := by decide +kernel
theorem d_method_2_code_34 : decode method_2_code 34 = .ok (.areturn, 1) := by decide +kernel
theorem d_method_2_code_35 : decode method_2_code 35 = .ok (.iload_n 0, 1) := by decide +kernel
theorem d_method_2_code_36 : decode method_2_code 36 = .ok (.iconst 4, 1) := by decide +kernel
theorem d_method_2_code_37 : decode method_2_code 37 = .ok (.if_icmp .ne 7, 3) := by decide +kernel
theorem d_method_2_code_40 : decode method_2_code 40 = .ok (.getstatic 22, 3) := by decide +kernel
theorem d_method_2_code_43 : decode method_2_code 43 = .ok (.areturn, 1) := by decide +kernel
theorem d_method_2_code_44 : decode method_2_code 44 = .ok (.iload_n 0, 1) := by decide +kernel
theorem d_method_2_code_45 : decode method_2_code 45 = .ok (.iconst 5, 1) := by decide +kernel
theorem d_method_2_code_46 : decode method_2_code 46 = .ok (.if_icmp .ne 7, 3) := by decide +kernel
theorem d_method_2_code_49 : decode method_2_code 49 = .ok (.getstatic 25, 3) := by decide +kernel
theorem d_method_2_code_52 : decode method_2_code 52 = .ok (.areturn, 1) := by decide +kernel
theorem d_method_2_code_53 : decode method_2_code 53 = .ok (.getstatic 28, 3) := by decide +kernel
theorem d_method_2_code_56 : decode method_2_code 56 = .ok (.areturn, 1) := by decide +kernel
def Q_rmpick (Z : State) (k : Int32) (w_REQUIRED : Addr) (w_SUPPORTS : Addr) (w_MANDATORY : Addr) (w_REQUIRES_NEW : Addr) (w_NOT_SUPPORTED : Addr) (w_NEVER : Addr) (w_NESTED : Addr) (h0 : Heap) (n0 : Nat) (v : Option Value) (h : Heap) (L : List Loc) : Prop := v = some (.ref (pk k w_REQUIRED w_SUPPORTS w_MANDATORY w_REQUIRES_NEW w_NOT_SUPPORTED w_NEVER w_NESTED)) ∧ Fr n0 L ∧ h = h0
theorem ef_rmpick (m : MethodId) (k : Int32) : entryFrame m #[(.int k)] 1 = mkF m 0 #[.val (.int k)] [] := by first | (simp [entryFrame, mkF, argsToLocals, Value.category]; done) | rfl
set_option maxRecDepth 65536 in
set_option maxHeartbeats 40000000 in
theorem rmpick (l : Launch) (Z : State) (a0 : Array Value) (hw : ∀ d ∈ tables_1, d.before a0 Z = true) (ws : List Jvm.Cond) (k : Int32) (w_REQUIRED : Addr) (w_SUPPORTS : Addr) (w_MANDATORY : Addr) (w_REQUIRES_NEW : Addr) (w_NOT_SUPPORTED : Addr) (w_NEVER : Addr) (w_NESTED : Addr) (h0 : Heap) (n0 : Nat) (O0 : Old Z n0 h0) (S_REQUIRED : Sta Z Z.heap "com/example/tx_at_boundaries/txatboundaries/boundary/Propagation" "REQUIRED" "Lcom/example/tx_at_boundaries/txatboundaries/boundary/Propagation;" (.ref w_REQUIRED)) (S_SUPPORTS : Sta Z Z.heap "com/example/tx_at_boundaries/txatboundaries/boundary/Propagation" "SUPPORTS" "Lcom/example/tx_at_boundaries/txatboundaries/boundary/Propagation;" (.ref w_SUPPORTS)) (S_MANDATORY : Sta Z Z.heap "com/example/tx_at_boundaries/txatboundaries/boundary/Propagation" "MANDATORY" "Lcom/example/tx_at_boundaries/txatboundaries/boundary/Propagation;" (.ref w_MANDATORY)) (S_REQUIRES_NEW : Sta Z Z.heap "com/example/tx_at_boundaries/txatboundaries/boundary/Propagation" "REQUIRES_NEW" "Lcom/example/tx_at_boundaries/txatboundaries/boundary/Propagation;" (.ref w_REQUIRES_NEW)) (S_NOT_SUPPORTED : Sta Z Z.heap "com/example/tx_at_boundaries/txatboundaries/boundary/Propagation" "NOT_SUPPORTED" "Lcom/example/tx_at_boundaries/txatboundaries/boundary/Propagation;" (.ref w_NOT_SUPPORTED)) (S_NEVER : Sta Z Z.heap "com/example/tx_at_boundaries/txatboundaries/boundary/Propagation" "NEVER" "Lcom/example/tx_at_boundaries/txatboundaries/boundary/Propagation;" (.ref w_NEVER)) (S_NESTED : Sta Z Z.heap "com/example/tx_at_boundaries/txatboundaries/boundary/Propagation" "NESTED" "Lcom/example/tx_at_boundaries/txatboundaries/boundary/Propagation;" (.ref w_NESTED)) :
    MetFree l (⟨"com/example/tx_at_boundaries/txatboundaries/boundary/PropagationDecidePinLaw", "pick", "(I)Lcom/example/tx_at_boundaries/txatboundaries/boundary/Propagation;"⟩ : MethodName) (head1 (Jvm.Cond.code (⟨"com/example/tx_at_boundaries/txatboundaries/boundary/PropagationDecidePinLaw", "pick", "(I)Lcom/example/tx_at_boundaries/txatboundaries/boundary/Propagation;"⟩ : MethodName) method_2_code 1 (some (.object "com/example/tx_at_boundaries/txatboundaries/boundary/Propagation")) :: ws) ({ frames := 0, cells := 0, slots := 0, locals := 0 } : Room)) (fun aa U => aa = #[(.int k)] ∧ Z.Warmed39 U.vm ∧ U.heap = h0) (fun _ _ _ _ _ => True) (fun _ U o U' => ∃ v L, o = .returned v ∧ Q_rmpick Z k w_REQUIRED w_SUPPORTS w_MANDATORY w_REQUIRES_NEW w_NOT_SUPPORTED w_NEVER w_NESTED h0 n0 v U'.heap L ∧ FrameEnd U o U' L ({ frames := 0, cells := 0, slots := 0, locals := 0 } : Room).cells ({ frames := 0, cells := 0, slots := 0, locals := 0 } : Room).slots) := by
  refine MetFree.of_bodySF (plainFor_of_name pn0) hisR ?_
  intro p e s m args below meth c s₁ Bd hml0 hP hK
  obtain ⟨rfl, hZ, hh⟩ := hP
  have hx := Bd.exec
  have hby := Bd.bytes
  have hml : c.maxLocals = 1 := hml0
  have hown : s.vm.findClass "com/example/tx_at_boundaries/txatboundaries/boundary/PropagationDecidePinLaw" = some m.cls := findClass_of_methodNamed Bd.named
  have hnm := (name_of_methodNamed Bd.named Bd.method).1
  have X0 : Stand p l e ({ frames := 0, cells := 0, slots := 0, locals := 0 } : Room) s m #[(.int k)] below meth c s₁ [] 0 0 := Stand.of_body Bd
  have e0 : s₁.heap = h0 := by rw [← hh, Bd.state]; rfl
  have N0 := Fr.nil n0
  have K0 : Keep h0 h0 [] := Keep.refl _ _
  have pre0 : ∀ tgt, Steps p.tables e below (s₁.setTop (mkF m 0 #[.val (.int k)] [])) tgt → Steps p.tables e below (s₁.setTop (entryFrame m #[(.int k)] 1)) tgt := fun tgt kgo => castTop (ef_rmpick m k) kgo
  have pre1 : ∀ tgt, Steps p.tables e below (s₁.setTop (mkF m 1 #[.val (.int k)] [(.int k)])) tgt → Steps p.tables e below (s₁.setTop (entryFrame m #[(.int k)] 1)) tgt := by
    intro tgt kgo
    refine pre0 _ ?_
    refine XS.iloadN X0.here hx rfl (hb hby d_method_2_code_0) rfl ?_
    show Steps p.tables e below (s₁.setTop (mkF m 1 #[.val (.int k)] [(.int k)])) _
    exact kgo
  by_cases hc1_2 : k = (0 : Int32)
  · obtain ⟨T3, X3, e3, st3⟩ := getS2 X0 hx hZ hown (host := "") (Or.inl (ow5 hw)) Via.refl e0 (S_REQUIRED.ext O0.2) (g := (mkF m 4 #[.val (.int k)] [])) rfl (hb hby d_method_2_code_4)
    obtain ⟨fs, hretL, hrun, hended, hW, hsame⟩ := X3.leave (v := some (.ref w_REQUIRED)) (fun h => by rw [Bd.returns] at h; cases h)
    refine ⟨_, _, pre1 _ ?_, hrun, hended, _, _, rfl, ?_, ⟨_, rfl⟩, hW, hsame.mono (by decide) (by decide)⟩
    · refine XS.ifNo X0.here hx rfl (hb hby d_method_2_code_1) rfl ((if0 _ _).trans (teq hc1_2).2) ?_
      show Steps p.tables e below (s₁.setTop (mkF m 4 #[.val (.int k)] [])) _
      refine st3 _ ?_
      show Steps p.tables e below (T3.setTop (mkF m 7 #[.val (.int k)] [(.ref w_REQUIRED)])) _
      exact retOut X3 hx Bd.returns rfl (Or.inr (Or.inr (Or.inr (Or.inr ⟨rfl, rfl, rfl⟩)))) (hb hby d_method_2_code_7) hretL
    · show Q_rmpick Z k w_REQUIRED w_SUPPORTS w_MANDATORY w_REQUIRES_NEW w_NOT_SUPPORTED w_NEVER w_NESTED h0 n0 _ T3.heap _
      rw [e3]
      exact ⟨by simp only [pk, if_pos hc1_2], N0, rfl⟩
  · have pre4 : ∀ tgt, Steps p.tables e below (s₁.setTop (mkF m 10 #[.val (.int k)] [(.int (1 : Int32)), (.int k)])) tgt → Steps p.tables e below (s₁.setTop (entryFrame m #[(.int k)] 1)) tgt := by
      intro tgt kgo
      refine pre1 _ ?_
      refine XS.ifYes X0.here hx rfl (pc0 := 1) (pc' := 8) rfl (hb hby d_method_2_code_1) rfl ((if0 _ _).trans (feq hc1_2).2) (by decide) (by decide) ?_
      show Steps p.tables e below (s₁.setTop (mkF m 8 #[.val (.int k)] [])) _
      refine XS.iloadN X0.here hx rfl (hb hby d_method_2_code_8) rfl ?_
      show Steps p.tables e below (s₁.setTop (mkF m 9 #[.val (.int k)] [(.int k)])) _
      refine XS.iconst X0.here hx rfl (hb hby d_method_2_code_9) ?_
      show Steps p.tables e below (s₁.setTop (mkF m 10 #[.val (.int k)] [(.int (1 : Int32)), (.int k)])) _
      exact kgo
    by_cases hc10_5 : k = (1 : Int32)
    · obtain ⟨T6, X6, e6, st6⟩ := getS2 X0 hx hZ hown (host := "") (Or.inl (ow25 hw)) Via.refl e0 (S_SUPPORTS.ext O0.2) (g := (mkF m 13 #[.val (.int k)] [])) rfl (hb hby d_method_2_code_13)
      obtain ⟨fs, hretL, hrun, hended, hW, hsame⟩ := X6.leave (v := some (.ref w_SUPPORTS)) (fun h => by rw [Bd.returns] at h; cases h)
      refine ⟨_, _, pre4 _ ?_, hrun, hended, _, _, rfl, ?_, ⟨_, rfl⟩, hW, hsame.mono (by decide) (by decide)⟩
      · refine XS.icmpNo X0.here hx rfl (hb hby d_method_2_code_10) rfl (teq hc10_5).2 ?_
        show Steps p.tables e below (s₁.setTop (mkF m 13 #[.val (.int k)] [])) _
        refine st6 _ ?_
        show Steps p.tables e below (T6.setTop (mkF m 16 #[.val (.int k)] [(.ref w_SUPPORTS)])) _
        exact retOut X6 hx Bd.returns rfl (Or.inr (Or.inr (Or.inr (Or.inr ⟨rfl, rfl, rfl⟩)))) (hb hby d_method_2_code_16) hretL
      · show Q_rmpick Z k w_REQUIRED w_SUPPORTS w_MANDATORY w_REQUIRES_NEW w_NOT_SUPPORTED w_NEVER w_NESTED h0 n0 _ T6.heap _
        rw [e6]
        exact ⟨by simp only [pk, if_neg hc1_2, if_pos hc10_5], N0, rfl⟩
    · have pre7 : ∀ tgt, Steps p.tables e below (s₁.setTop (mkF m 19 #[.val (.int k)] [(.int (2 : Int32)), (.int k)])) tgt → Steps p.tables e below (s₁.setTop (entryFrame m #[(.int k)] 1)) tgt := by
        intro tgt kgo
        refine pre4 _ ?_
        refine XS.icmpYes X0.here hx rfl (pc0 := 10) (pc' := 17) rfl (hb hby d_method_2_code_10) rfl (feq hc10_5).2 (by decide) (by decide) ?_
        show Steps p.tables e below (s₁.setTop (mkF m 17 #[.val (.int k)] [])) _
        refine XS.iloadN X0.here hx rfl (hb hby d_method_2_code_17) rfl ?_
        show Steps p.tables e below (s₁.setTop (mkF m 18 #[.val (.int k)] [(.int k)])) _
        refine XS.iconst X0.here hx rfl (hb hby d_method_2_code_18) ?_
        show Steps p.tables e below (s₁.setTop (mkF m 19 #[.val (.int k)] [(.int (2 : Int32)), (.int k)])) _
        exact kgo
      by_cases hc19_8 : k = (2 : Int32)
      · obtain ⟨T9, X9, e9, st9⟩ := getS2 X0 hx hZ hown (host := "") (Or.inl (ow43 hw)) Via.refl e0 (S_MANDATORY.ext O0.2) (g := (mkF m 22 #[.val (.int k)] [])) rfl (hb hby d_method_2_code_22)
        obtain ⟨fs, hretL, hrun, hended, hW, hsame⟩ := X9.leave (v := some (.ref w_MANDATORY)) (fun h => by rw [Bd.returns] at h; cases h)
        refine ⟨_, _, pre7 _ ?_, hrun, hended, _, _, rfl, ?_, ⟨_, rfl⟩, hW, hsame.mono (by decide) (by decide)⟩
        · refine XS.icmpNo X0.here hx rfl (hb hby d_method_2_code_19) rfl (teq hc19_8).2 ?_
          show Steps p.tables e below (s₁.setTop (mkF m 22 #[.val (.int k)] [])) _
          refine st9 _ ?_
          show Steps p.tables e below (T9.setTop (mkF m 25 #[.val (.int k)] [(.ref w_MANDATORY)])) _
          exact retOut X9 hx Bd.returns rfl (Or.inr (Or.inr (Or.inr (Or.inr ⟨rfl, rfl, rfl⟩)))) (hb hby d_method_2_code_25) hretL
        · show Q_rmpick Z k w_REQUIRED w_SUPPORTS w_MANDATORY w_REQUIRES_NEW w_NOT_SUPPORTED w_NEVER w_NESTED h0 n0 _ T9.heap _
          rw [e9]
          exact ⟨by simp only [pk, if_neg hc1_2, if_neg hc10_5, if_pos hc19_8], N0, rfl⟩
      · have pre10 : ∀ tgt, Steps p.tables e below (s₁.setTop (mkF m 28 #[.val (.int k)] [(.int (3 : Int32)), (.int k)])) tgt → Steps p.tables e below (s₁.setTop (entryFrame m #[(.int k)] 1)) tgt := by
          intro tgt kgo
          refine pre7 _ ?_
          refine XS.icmpYes X0.here hx rfl (pc0 := 19) (pc' := 26) rfl (hb hby d_method_2_code_19) rfl (feq hc19_8).2 (by decide) (by decide) ?_
          show Steps p.tables e below (s₁.setTop (mkF m 26 #[.val (.int k)] [])) _
          refine XS.iloadN X0.here hx rfl (hb hby d_method_2_code_26) rfl ?_
          show Steps p.tables e below (s₁.setTop (mkF m 27 #[.val (.int k)] [(.int k)])) _
          refine XS.iconst X0.here hx rfl (hb hby d_method_2_code_27) ?_
          show Steps p.tables e below (s₁.setTop (mkF m 28 #[.val (.int k)] [(.int (3 : Int32)), (.int k)])) _
          exact kgo
        by_cases hc28_11 : k = (3 : Int32)
        · obtain ⟨T12, X12, e12, st12⟩ := getS2 X0 hx hZ hown (host := "") (Or.inl (ow21 hw)) Via.refl e0 (S_REQUIRES_NEW.ext O0.2) (g := (mkF m 31 #[.val (.int k)] [])) rfl (hb hby d_method_2_code_31)
          obtain ⟨fs, hretL, hrun, hended, hW, hsame⟩ := X12.leave (v := some (.ref w_REQUIRES_NEW)) (fun h => by rw [Bd.returns] at h; cases h)
          refine ⟨_, _, pre10 _ ?_, hrun, hended, _, _, rfl, ?_, ⟨_, rfl⟩, hW, hsame.mono (by decide) (by decide)⟩
          · refine XS.icmpNo X0.here hx rfl (hb hby d_method_2_code_28) rfl (teq hc28_11).2 ?_
            show Steps p.tables e below (s₁.setTop (mkF m 31 #[.val (.int k)] [])) _
            refine st12 _ ?_
            show Steps p.tables e below (T12.setTop (mkF m 34 #[.val (.int k)] [(.ref w_REQUIRES_NEW)])) _
            exact retOut X12 hx Bd.returns rfl (Or.inr (Or.inr (Or.inr (Or.inr ⟨rfl, rfl, rfl⟩)))) (hb hby d_method_2_code_34) hretL
          · show Q_rmpick Z k w_REQUIRED w_SUPPORTS w_MANDATORY w_REQUIRES_NEW w_NOT_SUPPORTED w_NEVER w_NESTED h0 n0 _ T12.heap _
            rw [e12]
            exact ⟨by simp only [pk, if_neg hc1_2, if_neg hc10_5, if_neg hc19_8, if_pos hc28_11], N0, rfl⟩
        · have pre13 : ∀ tgt, Steps p.tables e below (s₁.setTop (mkF m 37 #[.val (.int k)] [(.int (4 : Int32)), (.int k)])) tgt → Steps p.tables e below (s₁.setTop (entryFrame m #[(.int k)] 1)) tgt := by
            intro tgt kgo
            refine pre10 _ ?_
            refine XS.icmpYes X0.here hx rfl (pc0 := 28) (pc' := 35) rfl (hb hby d_method_2_code_28) rfl (feq hc28_11).2 (by decide) (by decide) ?_
            show Steps p.tables e below (s₁.setTop (mkF m 35 #[.val (.int k)] [])) _
            refine XS.iloadN X0.here hx rfl (hb hby d_method_2_code_35) rfl ?_
            show Steps p.tables e below (s₁.setTop (mkF m 36 #[.val (.int k)] [(.int k)])) _
            refine XS.iconst X0.here hx rfl (hb hby d_method_2_code_36) ?_
            show Steps p.tables e below (s₁.setTop (mkF m 37 #[.val (.int k)] [(.int (4 : Int32)), (.int k)])) _
            exact kgo
          by_cases hc37_14 : k = (4 : Int32)
          · obtain ⟨T15, X15, e15, st15⟩ := getS2 X0 hx hZ hown (host := "") (Or.inl (ow31 hw)) Via.refl e0 (S_NOT_SUPPORTED.ext O0.2) (g := (mkF m 40 #[.val (.int k)] [])) rfl (hb hby d_method_2_code_40)
            obtain ⟨fs, hretL, hrun, hended, hW, hsame⟩ := X15.leave (v := some (.ref w_NOT_SUPPORTED)) (fun h => by rw [Bd.returns] at h; cases h)
            refine ⟨_, _, pre13 _ ?_, hrun, hended, _, _, rfl, ?_, ⟨_, rfl⟩, hW, hsame.mono (by decide) (by decide)⟩
            · refine XS.icmpNo X0.here hx rfl (hb hby d_method_2_code_37) rfl (teq hc37_14).2 ?_
              show Steps p.tables e below (s₁.setTop (mkF m 40 #[.val (.int k)] [])) _
              refine st15 _ ?_
              show Steps p.tables e below (T15.setTop (mkF m 43 #[.val (.int k)] [(.ref w_NOT_SUPPORTED)])) _
              exact retOut X15 hx Bd.returns rfl (Or.inr (Or.inr (Or.inr (Or.inr ⟨rfl, rfl, rfl⟩)))) (hb hby d_method_2_code_43) hretL
            · show Q_rmpick Z k w_REQUIRED w_SUPPORTS w_MANDATORY w_REQUIRES_NEW w_NOT_SUPPORTED w_NEVER w_NESTED h0 n0 _ T15.heap _
              rw [e15]
              exact ⟨by simp only [pk, if_neg hc1_2, if_neg hc10_5, if_neg hc19_8, if_neg hc28_11, if_pos hc37_14], N0, rfl⟩
          · have pre16 : ∀ tgt, Steps p.tables e below (s₁.setTop (mkF m 46 #[.val (.int k)] [(.int (5 : Int32)), (.int k)])) tgt → Steps p.tables e below (s₁.setTop (entryFrame m #[(.int k)] 1)) tgt := by
              intro tgt kgo
              refine pre13 _ ?_
              refine XS.icmpYes X0.here hx rfl (pc0 := 37) (pc' := 44) rfl (hb hby d_method_2_code_37) rfl (feq hc37_14).2 (by decide) (by decide) ?_
              show Steps p.tables e below (s₁.setTop (mkF m 44 #[.val (.int k)] [])) _
              refine XS.iloadN X0.here hx rfl (hb hby d_method_2_code_44) rfl ?_
              show Steps p.tables e below (s₁.setTop (mkF m 45 #[.val (.int k)] [(.int k)])) _
              refine XS.iconst X0.here hx rfl (hb hby d_method_2_code_45) ?_
              show Steps p.tables e below (s₁.setTop (mkF m 46 #[.val (.int k)] [(.int (5 : Int32)), (.int k)])) _
              exact kgo
            by_cases hc46_17 : k = (5 : Int32)
            · obtain ⟨T18, X18, e18, st18⟩ := getS2 X0 hx hZ hown (host := "") (Or.inl (ow39 hw)) Via.refl e0 (S_NEVER.ext O0.2) (g := (mkF m 49 #[.val (.int k)] [])) rfl (hb hby d_method_2_code_49)
              obtain ⟨fs, hretL, hrun, hended, hW, hsame⟩ := X18.leave (v := some (.ref w_NEVER)) (fun h => by rw [Bd.returns] at h; cases h)
              refine ⟨_, _, pre16 _ ?_, hrun, hended, _, _, rfl, ?_, ⟨_, rfl⟩, hW, hsame.mono (by decide) (by decide)⟩
              · refine XS.icmpNo X0.here hx rfl (hb hby d_method_2_code_46) rfl (teq hc46_17).2 ?_
                show Steps p.tables e below (s₁.setTop (mkF m 49 #[.val (.int k)] [])) _
                refine st18 _ ?_
                show Steps p.tables e below (T18.setTop (mkF m 52 #[.val (.int k)] [(.ref w_NEVER)])) _
                exact retOut X18 hx Bd.returns rfl (Or.inr (Or.inr (Or.inr (Or.inr ⟨rfl, rfl, rfl⟩)))) (hb hby d_method_2_code_52) hretL
              · show Q_rmpick Z k w_REQUIRED w_SUPPORTS w_MANDATORY w_REQUIRES_NEW w_NOT_SUPPORTED w_NEVER w_NESTED h0 n0 _ T18.heap _
                rw [e18]
                exact ⟨by simp only [pk, if_neg hc1_2, if_neg hc10_5, if_neg hc19_8, if_neg hc28_11, if_neg hc37_14, if_pos hc46_17], N0, rfl⟩
            · obtain ⟨T19, X19, e19, st19⟩ := getS2 X0 hx hZ hown (host := "") (Or.inl (ow35 hw)) Via.refl e0 (S_NESTED.ext O0.2) (g := (mkF m 53 #[.val (.int k)] [])) rfl (hb hby d_method_2_code_53)
              obtain ⟨fs, hretL, hrun, hended, hW, hsame⟩ := X19.leave (v := some (.ref w_NESTED)) (fun h => by rw [Bd.returns] at h; cases h)
              refine ⟨_, _, pre16 _ ?_, hrun, hended, _, _, rfl, ?_, ⟨_, rfl⟩, hW, hsame.mono (by decide) (by decide)⟩
              · refine XS.icmpYes X0.here hx rfl (pc0 := 46) (pc' := 53) rfl (hb hby d_method_2_code_46) rfl (feq hc46_17).2 (by decide) (by decide) ?_
                show Steps p.tables e below (s₁.setTop (mkF m 53 #[.val (.int k)] [])) _
                refine st19 _ ?_
                show Steps p.tables e below (T19.setTop (mkF m 56 #[.val (.int k)] [(.ref w_NESTED)])) _
                exact retOut X19 hx Bd.returns rfl (Or.inr (Or.inr (Or.inr (Or.inr ⟨rfl, rfl, rfl⟩)))) (hb hby d_method_2_code_56) hretL
              · show Q_rmpick Z k w_REQUIRED w_SUPPORTS w_MANDATORY w_REQUIRES_NEW w_NOT_SUPPORTED w_NEVER w_NESTED h0 n0 _ T19.heap _
                rw [e19]
                exact ⟨by simp only [pk, if_neg hc1_2, if_neg hc10_5, if_neg hc19_8, if_neg hc28_11, if_neg hc37_14, if_neg hc46_17], N0, rfl⟩
theorem d_prog_10_method_4_code_0 : decode prog_10_method_4_code 0 = .ok (.iload_n 1, 1) := by decide +kernel
theorem d_prog_10_method_4_code_1 : decode prog_10_method_4_code 1 = .ok (.ifCond .eq 10, 3) := by decide +kernel
theorem d_prog_10_method_4_code_4 : decode prog_10_method_4_code 4 = .ok (.aload_n 0, 1) := by decide +kernel
theorem d_prog_10_method_4_code_5 : decode prog_10_method_4_code 5 = .ok (.getfield 44, 3) := by decide +kernel
theorem d_prog_10_method_4_code_8 : decode prog_10_method_4_code 8 = .ok (.goto 7, 3) := by decide +kernel
theorem d_prog_10_method_4_code_11 : decode prog_10_method_4_code 11 = .ok (.aload_n 0, 1) := by decide +kernel
theorem d_prog_10_method_4_code_12 : decode prog_10_method_4_code 12 = .ok (.getfield 48, 3) := by decide +kernel
theorem d_prog_10_method_4_code_15 : decode prog_10_method_4_code 15 = .ok (.areturn, 1) := by decide +kernel
def Q_rmdec (Z : State) (a : Addr) (r : Int32) (wr : Addr) (wn : Addr) (h0 : Heap) (n0 : Nat) (v : Option Value) (h : Heap) (L : List Loc) : Prop := v = some (.ref (dc r wr wn)) ∧ Fr n0 L ∧ h = h0
theorem ef_rmdec (m : MethodId) (a : Addr) (r : Int32) : entryFrame m #[(.ref a), (.int r)] 2 = mkF m 0 #[.val (.ref a), .val (.int r)] [] := by first | (simp [entryFrame, mkF, argsToLocals, Value.category]; done) | rfl
set_option maxRecDepth 65536 in
set_option maxHeartbeats 40000000 in
theorem rmdec (l : Launch) (Z : State) (a0 : Array Value) (hw : ∀ d ∈ tables_1, d.before a0 Z = true) (ws : List Jvm.Cond) (a : Addr) (r : Int32) (wr : Addr) (wn : Addr) (h0 : Heap) (n0 : Nat) (O0 : Old Z n0 h0) (Fr1 : Fld Z h0 a "com/example/tx_at_boundaries/txatboundaries/boundary/Propagation" "whenRunning" "Lcom/example/tx_at_boundaries/txatboundaries/boundary/Propagation$Action;" (.ref wr)) (Fn1 : Fld Z h0 a "com/example/tx_at_boundaries/txatboundaries/boundary/Propagation" "whenNoneRunning" "Lcom/example/tx_at_boundaries/txatboundaries/boundary/Propagation$Action;" (.ref wn)) :
    MetFree l (⟨"com/example/tx_at_boundaries/txatboundaries/boundary/Propagation", "decide", "(Z)Lcom/example/tx_at_boundaries/txatboundaries/boundary/Propagation$Action;"⟩ : MethodName) (head1 (Jvm.Cond.code (⟨"com/example/tx_at_boundaries/txatboundaries/boundary/Propagation", "decide", "(Z)Lcom/example/tx_at_boundaries/txatboundaries/boundary/Propagation$Action;"⟩ : MethodName) prog_10_method_4_code 2 (some (.object "com/example/tx_at_boundaries/txatboundaries/boundary/Propagation$Action")) :: ws) ({ frames := 0, cells := 0, slots := 0, locals := 0 } : Room)) (fun aa U => aa = #[(.ref a), (.int r)] ∧ Z.Warmed39 U.vm ∧ U.heap = h0) (fun _ _ _ _ _ => True) (fun _ U o U' => ∃ v L, o = .returned v ∧ Q_rmdec Z a r wr wn h0 n0 v U'.heap L ∧ FrameEnd U o U' L ({ frames := 0, cells := 0, slots := 0, locals := 0 } : Room).cells ({ frames := 0, cells := 0, slots := 0, locals := 0 } : Room).slots) := by
  refine MetFree.of_bodySF (plainFor_of_name pn1) hisR ?_
  intro p e s m args below meth c s₁ Bd hml0 hP hK
  obtain ⟨rfl, hZ, hh⟩ := hP
  have hx := Bd.exec
  have hby := Bd.bytes
  have hml : c.maxLocals = 2 := hml0
  have hown : s.vm.findClass "com/example/tx_at_boundaries/txatboundaries/boundary/Propagation" = some m.cls := findClass_of_methodNamed Bd.named
  have hnm := (name_of_methodNamed Bd.named Bd.method).1
  have X0 : Stand p l e ({ frames := 0, cells := 0, slots := 0, locals := 0 } : Room) s m #[(.ref a), (.int r)] below meth c s₁ [] 0 0 := Stand.of_body Bd
  have e0 : s₁.heap = h0 := by rw [← hh, Bd.state]; rfl
  have N0 := Fr.nil n0
  have K0 : Keep h0 h0 [] := Keep.refl _ _
  have pre0 : ∀ tgt, Steps p.tables e below (s₁.setTop (mkF m 0 #[.val (.ref a), .val (.int r)] [])) tgt → Steps p.tables e below (s₁.setTop (entryFrame m #[(.ref a), (.int r)] 2)) tgt := fun tgt kgo => castTop (ef_rmdec m a r) kgo
  have pre1 : ∀ tgt, Steps p.tables e below (s₁.setTop (mkF m 1 #[.val (.ref a), .val (.int r)] [(.int r)])) tgt → Steps p.tables e below (s₁.setTop (entryFrame m #[(.ref a), (.int r)] 2)) tgt := by
    intro tgt kgo
    refine pre0 _ ?_
    refine XS.iloadN X0.here hx rfl (hb hby d_prog_10_method_4_code_0) rfl ?_
    show Steps p.tables e below (s₁.setTop (mkF m 1 #[.val (.ref a), .val (.int r)] [(.int r)])) _
    exact kgo
  by_cases hc1_2 : r = (0 : Int32)
  · obtain ⟨T3, X3, e3, st3⟩ := getF X0 hx hZ hown (host := "") (Or.inl (ow27 hw)) Via.refl e0 Fn1 (g := (mkF m 12 #[.val (.ref a), .val (.int r)] [(.ref a)])) rfl rfl (hb hby d_prog_10_method_4_code_12)
    obtain ⟨fs, hretL, hrun, hended, hW, hsame⟩ := X3.leave (v := some (.ref wn)) (fun h => by rw [Bd.returns] at h; cases h)
    refine ⟨_, _, pre1 _ ?_, hrun, hended, _, _, rfl, ?_, ⟨_, rfl⟩, hW, hsame.mono (by decide) (by decide)⟩
    · refine XS.ifYes X0.here hx rfl (pc0 := 1) (pc' := 11) rfl (hb hby d_prog_10_method_4_code_1) rfl ((if0 _ _).trans (teq hc1_2).1) (by decide) (by decide) ?_
      show Steps p.tables e below (s₁.setTop (mkF m 11 #[.val (.ref a), .val (.int r)] [])) _
      refine XS.aloadN X0.here hx rfl (hb hby d_prog_10_method_4_code_11) rfl rfl ?_
      show Steps p.tables e below (s₁.setTop (mkF m 12 #[.val (.ref a), .val (.int r)] [(.ref a)])) _
      refine st3 _ ?_
      show Steps p.tables e below (T3.setTop (mkF m 15 #[.val (.ref a), .val (.int r)] [(.ref wn)])) _
      exact retOut X3 hx Bd.returns rfl (Or.inr (Or.inr (Or.inr (Or.inr ⟨rfl, rfl, rfl⟩)))) (hb hby d_prog_10_method_4_code_15) hretL
    · show Q_rmdec Z a r wr wn h0 n0 _ T3.heap _
      rw [e3]
      exact ⟨by simp only [dc, if_pos hc1_2], N0, rfl⟩
  · obtain ⟨T4, X4, e4, st4⟩ := getF X0 hx hZ hown (host := "") (Or.inl (ow13 hw)) Via.refl e0 Fr1 (g := (mkF m 5 #[.val (.ref a), .val (.int r)] [(.ref a)])) rfl rfl (hb hby d_prog_10_method_4_code_5)
    obtain ⟨fs, hretL, hrun, hended, hW, hsame⟩ := X4.leave (v := some (.ref wr)) (fun h => by rw [Bd.returns] at h; cases h)
    refine ⟨_, _, pre1 _ ?_, hrun, hended, _, _, rfl, ?_, ⟨_, rfl⟩, hW, hsame.mono (by decide) (by decide)⟩
    · refine XS.ifNo X0.here hx rfl (hb hby d_prog_10_method_4_code_1) rfl ((if0 _ _).trans (feq hc1_2).1) ?_
      show Steps p.tables e below (s₁.setTop (mkF m 4 #[.val (.ref a), .val (.int r)] [])) _
      refine XS.aloadN X0.here hx rfl (hb hby d_prog_10_method_4_code_4) rfl rfl ?_
      show Steps p.tables e below (s₁.setTop (mkF m 5 #[.val (.ref a), .val (.int r)] [(.ref a)])) _
      refine st4 _ ?_
      show Steps p.tables e below (T4.setTop (mkF m 8 #[.val (.ref a), .val (.int r)] [(.ref wr)])) _
      refine XS.goto X4.here hx rfl (pc0 := 8) (pc' := 15) rfl (hb hby d_prog_10_method_4_code_8) (by decide) (by decide) ?_
      show Steps p.tables e below (T4.setTop (mkF m 15 #[.val (.ref a), .val (.int r)] [(.ref wr)])) _
      exact retOut X4 hx Bd.returns rfl (Or.inr (Or.inr (Or.inr (Or.inr ⟨rfl, rfl, rfl⟩)))) (hb hby d_prog_10_method_4_code_15) hretL
    · show Q_rmdec Z a r wr wn h0 n0 _ T4.heap _
      rw [e4]
      exact ⟨by simp only [dc, if_neg hc1_2], N0, rfl⟩
theorem d_method_3_code_0 : decode method_3_code 0 = .ok (.iload_n 1, 1) := by decide +kernel
theorem d_method_3_code_1 : decode method_3_code 1 = .ok (.ifCond .eq 52, 3) := by decide +kernel
theorem d_method_3_code_4 : decode method_3_code 4 = .ok (.iload_n 0, 1) := by decide +kernel
theorem d_method_3_code_5 : decode method_3_code 5 = .ok (.ifCond .eq 13, 3) := by decide +kernel
theorem d_method_3_code_8 : decode method_3_code 8 = .ok (.iload_n 0, 1) := by decide +kernel
theorem d_method_3_code_9 : decode method_3_code 9 = .ok (.iconst 1, 1) := by decide +kernel
theorem d_method_3_code_10 : decode method_3_code 10 = .ok (.if_icmp .eq 8, 3) := by decide +kernel
theorem d_method_3_code_13 : decode method_3_code 13 = .ok (.iload_n 0, 1) := by decide +kernel
theorem d_method_3_code_14 : decode method_3_code 14 = .ok (.iconst 2, 1) := by decide +kernel
theorem d_method_3_code_15 : decode method_3_code 15 = .ok (.if_icmp .ne 7, 3) := by decide +kernel
theorem d_method_3_code_18 : decode method_3_code 18 = .ok (.getstatic 31, 3) := by decide +kernel
theorem d_method_3_code_21 : decode method_3_code 21 = .ok (.areturn, 1) := by decide +kernel
theorem d_method_3_code_22 : decode method_3_code 22 = .ok (.iload_n 0, 1) := by decide +kernel
theorem d_method_3_code_23 : decode method_3_code 23 = .ok (.iconst 3, 1) := by decide +kernel
theorem d_method_3_code_24 : decode method_3_code 24 = .ok (.if_icmp .ne 7, 3) := by decide +kernel
theorem d_method_3_code_27 : decode method_3_code 27 = .ok (.getstatic 37, 3) := by decide +kernel
theorem d_method_3_code_30 : decode method_3_code 30 = .ok (.areturn, 1) := by decide +kernel
theorem d_method_3_code_31 : decode method_3_code 31 = .ok (.iload_n 0, 1) := by decide +kernel
theorem d_method_3_code_32 : decode method_3_code 32 = .ok (.iconst 4, 1) := by decide +kernel
theorem d_method_3_code_33 : decode method_3_code 33 = .ok (.if_icmp .ne 7, 3) := by decide +kernel
theorem d_method_3_code_36 : decode method_3_code 36 = .ok (.getstatic 40, 3) := by decide +kernel
theorem d_method_3_code_39 : decode method_3_code 39 = .ok (.areturn, 1) := by decide +kernel
theorem d_method_3_code_40 : decode method_3_code 40 = .ok (.iload_n 0, 1) := by decide +kernel
theorem d_method_3_code_41 : decode method_3_code 41 = .ok (.iconst 5, 1) := by decide +kernel
theorem d_method_3_code_42 : decode method_3_code 42 = .ok (.if_icmp .ne 7, 3) := by decide +kernel
theorem d_method_3_code_45 : decode method_3_code 45 = .ok (.getstatic 43, 3) := by decide +kernel
theorem d_method_3_code_48 : decode method_3_code 48 = .ok (.areturn, 1) := by decide +kernel
theorem d_method_3_code_49 : decode method_3_code 49 = .ok (.getstatic 46, 3) := by decide +kernel
theorem d_method_3_code_52 : decode method_3_code 52 = .ok (.areturn, 1) := by decide +kernel
theorem d_method_3_code_53 : decode method_3_code 53 = .ok (.iload_n 0, 1) := by decide +kernel
theorem d_method_3_code_54 : decode method_3_code 54 = .ok (.ifCond .eq 14, 3) := by decide +kernel
theorem d_method_3_code_57 : decode method_3_code 57 = .ok (.iload_n 0, 1) := by decide +kernel
theorem d_method_3_code_58 : decode method_3_code 58 = .ok (.iconst 3, 1) := by decide +kernel
theorem d_method_3_code_59 : decode method_3_code 59 = .ok (.if_icmp .eq 9, 3) := by decide +kernel
theorem d_method_3_code_62 : decode method_3_code 62 = .ok (.iload_n 0, 1) := by decide +kernel
theorem d_method_3_code_63 : decode method_3_code 63 = .ok (.bipush 6, 2) := by decide +kernel
theorem d_method_3_code_65 : decode method_3_code 65 = .ok (.if_icmp .ne 7, 3) := by decide +kernel
theorem d_method_3_code_68 : decode method_3_code 68 = .ok (.getstatic 49, 3) := by decide +kernel
theorem d_method_3_code_71 : decode method_3_code 71 = .ok (.areturn, 1) := by decide +kernel
theorem d_method_3_code_72 : decode method_3_code 72 = .ok (.iload_n 0, 1) := by decide +kernel
theorem d_method_3_code_73 : decode method_3_code 73 = .ok (.iconst 2, 1) := by decide +kernel
theorem d_method_3_code_74 : decode method_3_code 74 = .ok (.if_icmp .ne 7, 3) := by decide +kernel
theorem d_method_3_code_77 : decode method_3_code 77 = .ok (.getstatic 52, 3) := by decide +kernel
theorem d_method_3_code_80 : decode method_3_code 80 = .ok (.areturn, 1) := by decide +kernel
theorem d_method_3_code_81 : decode method_3_code 81 = .ok (.getstatic 55, 3) := by decide +kernel
theorem d_method_3_code_84 : decode method_3_code 84 = .ok (.areturn, 1) := by decide +kernel
def Q_rmexp (Z : State) (k : Int32) (r : Int32) (w_JOIN : Addr) (w_SUSPEND_AND_START : Addr) (w_SUSPEND_AND_RUN_WITHOUT : Addr) (w_REFUSE_RUNNING : Addr) (w_NEST : Addr) (w_START : Addr) (w_REFUSE_NONE_RUNNING : Addr) (w_RUN_WITHOUT : Addr) (h0 : Heap) (n0 : Nat) (v : Option Value) (h : Heap) (L : List Loc) : Prop := v = some (.ref (ex k r w_JOIN w_SUSPEND_AND_START w_SUSPEND_AND_RUN_WITHOUT w_REFUSE_RUNNING w_NEST w_START w_REFUSE_NONE_RUNNING w_RUN_WITHOUT)) ∧ Fr n0 L ∧ h = h0
theorem ef_rmexp (m : MethodId) (k : Int32) (r : Int32) : entryFrame m #[(.int k), (.int r)] 2 = mkF m 0 #[.val (.int k), .val (.int r)] [] := by first | (simp [entryFrame, mkF, argsToLocals, Value.category]; done) | rfl
set_option maxRecDepth 65536 in
set_option maxHeartbeats 40000000 in
theorem rmexp (l : Launch) (Z : State) (a0 : Array Value) (hw : ∀ d ∈ tables_1, d.before a0 Z = true) (ws : List Jvm.Cond) (k : Int32) (r : Int32) (w_JOIN : Addr) (w_SUSPEND_AND_START : Addr) (w_SUSPEND_AND_RUN_WITHOUT : Addr) (w_REFUSE_RUNNING : Addr) (w_NEST : Addr) (w_START : Addr) (w_REFUSE_NONE_RUNNING : Addr) (w_RUN_WITHOUT : Addr) (h0 : Heap) (n0 : Nat) (O0 : Old Z n0 h0) (S_JOIN : Sta Z Z.heap "com/example/tx_at_boundaries/txatboundaries/boundary/Propagation$Action" "JOIN" "Lcom/example/tx_at_boundaries/txatboundaries/boundary/Propagation$Action;" (.ref w_JOIN)) (S_SUSPEND_AND_START : Sta Z Z.heap "com/example/tx_at_boundaries/txatboundaries/boundary/Propagation$Action" "SUSPEND_AND_START" "Lcom/example/tx_at_boundaries/txatboundaries/boundary/Propagation$Action;" (.ref w_SUSPEND_AND_START)) (S_SUSPEND_AND_RUN_WITHOUT : Sta Z Z.heap "com/example/tx_at_boundaries/txatboundaries/boundary/Propagation$Action" "SUSPEND_AND_RUN_WITHOUT" "Lcom/example/tx_at_boundaries/txatboundaries/boundary/Propagation$Action;" (.ref w_SUSPEND_AND_RUN_WITHOUT)) (S_REFUSE_RUNNING : Sta Z Z.heap "com/example/tx_at_boundaries/txatboundaries/boundary/Propagation$Action" "REFUSE_RUNNING" "Lcom/example/tx_at_boundaries/txatboundaries/boundary/Propagation$Action;" (.ref w_REFUSE_RUNNING)) (S_NEST : Sta Z Z.heap "com/example/tx_at_boundaries/txatboundaries/boundary/Propagation$Action" "NEST" "Lcom/example/tx_at_boundaries/txatboundaries/boundary/Propagation$Action;" (.ref w_NEST)) (S_START : Sta Z Z.heap "com/example/tx_at_boundaries/txatboundaries/boundary/Propagation$Action" "START" "Lcom/example/tx_at_boundaries/txatboundaries/boundary/Propagation$Action;" (.ref w_START)) (S_REFUSE_NONE_RUNNING : Sta Z Z.heap "com/example/tx_at_boundaries/txatboundaries/boundary/Propagation$Action" "REFUSE_NONE_RUNNING" "Lcom/example/tx_at_boundaries/txatboundaries/boundary/Propagation$Action;" (.ref w_REFUSE_NONE_RUNNING)) (S_RUN_WITHOUT : Sta Z Z.heap "com/example/tx_at_boundaries/txatboundaries/boundary/Propagation$Action" "RUN_WITHOUT" "Lcom/example/tx_at_boundaries/txatboundaries/boundary/Propagation$Action;" (.ref w_RUN_WITHOUT)) :
    MetFree l (⟨"com/example/tx_at_boundaries/txatboundaries/boundary/PropagationDecidePinLaw", "expected", "(IZ)Lcom/example/tx_at_boundaries/txatboundaries/boundary/Propagation$Action;"⟩ : MethodName) (head1 (Jvm.Cond.code (⟨"com/example/tx_at_boundaries/txatboundaries/boundary/PropagationDecidePinLaw", "expected", "(IZ)Lcom/example/tx_at_boundaries/txatboundaries/boundary/Propagation$Action;"⟩ : MethodName) method_3_code 2 (some (.object "com/example/tx_at_boundaries/txatboundaries/boundary/Propagation$Action")) :: ws) ({ frames := 0, cells := 0, slots := 0, locals := 0 } : Room)) (fun aa U => aa = #[(.int k), (.int r)] ∧ Z.Warmed39 U.vm ∧ U.heap = h0) (fun _ _ _ _ _ => True) (fun _ U o U' => ∃ v L, o = .returned v ∧ Q_rmexp Z k r w_JOIN w_SUSPEND_AND_START w_SUSPEND_AND_RUN_WITHOUT w_REFUSE_RUNNING w_NEST w_START w_REFUSE_NONE_RUNNING w_RUN_WITHOUT h0 n0 v U'.heap L ∧ FrameEnd U o U' L ({ frames := 0, cells := 0, slots := 0, locals := 0 } : Room).cells ({ frames := 0, cells := 0, slots := 0, locals := 0 } : Room).slots) := by
  refine MetFree.of_bodySF (plainFor_of_name pn0) hisR ?_
  intro p e s m args below meth c s₁ Bd hml0 hP hK
  obtain ⟨rfl, hZ, hh⟩ := hP
  have hx := Bd.exec
  have hby := Bd.bytes
  have hml : c.maxLocals = 2 := hml0
  have hown : s.vm.findClass "com/example/tx_at_boundaries/txatboundaries/boundary/PropagationDecidePinLaw" = some m.cls := findClass_of_methodNamed Bd.named
  have hnm := (name_of_methodNamed Bd.named Bd.method).1
  have X0 : Stand p l e ({ frames := 0, cells := 0, slots := 0, locals := 0 } : Room) s m #[(.int k), (.int r)] below meth c s₁ [] 0 0 := Stand.of_body Bd
  have e0 : s₁.heap = h0 := by rw [← hh, Bd.state]; rfl
  have N0 := Fr.nil n0
  have K0 : Keep h0 h0 [] := Keep.refl _ _
  have pre0 : ∀ tgt, Steps p.tables e below (s₁.setTop (mkF m 0 #[.val (.int k), .val (.int r)] [])) tgt → Steps p.tables e below (s₁.setTop (entryFrame m #[(.int k), (.int r)] 2)) tgt := fun tgt kgo => castTop (ef_rmexp m k r) kgo
  have pre1 : ∀ tgt, Steps p.tables e below (s₁.setTop (mkF m 1 #[.val (.int k), .val (.int r)] [(.int r)])) tgt → Steps p.tables e below (s₁.setTop (entryFrame m #[(.int k), (.int r)] 2)) tgt := by
    intro tgt kgo
    refine pre0 _ ?_
    refine XS.iloadN X0.here hx rfl (hb hby d_method_3_code_0) rfl ?_
    show Steps p.tables e below (s₁.setTop (mkF m 1 #[.val (.int k), .val (.int r)] [(.int r)])) _
    exact kgo
  by_cases hc1_2 : r = (0 : Int32)
  · have pre3 : ∀ tgt, Steps p.tables e below (s₁.setTop (mkF m 54 #[.val (.int k), .val (.int r)] [(.int k)])) tgt → Steps p.tables e below (s₁.setTop (entryFrame m #[(.int k), (.int r)] 2)) tgt := by
      intro tgt kgo
      refine pre1 _ ?_
      refine XS.ifYes X0.here hx rfl (pc0 := 1) (pc' := 53) rfl (hb hby d_method_3_code_1) rfl ((if0 _ _).trans (teq hc1_2).1) (by decide) (by decide) ?_
      show Steps p.tables e below (s₁.setTop (mkF m 53 #[.val (.int k), .val (.int r)] [])) _
      refine XS.iloadN X0.here hx rfl (hb hby d_method_3_code_53) rfl ?_
      show Steps p.tables e below (s₁.setTop (mkF m 54 #[.val (.int k), .val (.int r)] [(.int k)])) _
      exact kgo
    by_cases hc54_4 : k = (0 : Int32)
    · obtain ⟨T5, X5, e5, st5⟩ := getS2 X0 hx hZ hown (host := "") (Or.inl (ow38 hw)) Via.refl e0 (S_START.ext O0.2) (g := (mkF m 68 #[.val (.int k), .val (.int r)] [])) rfl (hb hby d_method_3_code_68)
      obtain ⟨fs, hretL, hrun, hended, hW, hsame⟩ := X5.leave (v := some (.ref w_START)) (fun h => by rw [Bd.returns] at h; cases h)
      refine ⟨_, _, pre3 _ ?_, hrun, hended, _, _, rfl, ?_, ⟨_, rfl⟩, hW, hsame.mono (by decide) (by decide)⟩
      · refine XS.ifYes X0.here hx rfl (pc0 := 54) (pc' := 68) rfl (hb hby d_method_3_code_54) rfl ((if0 _ _).trans (teq hc54_4).1) (by decide) (by decide) ?_
        show Steps p.tables e below (s₁.setTop (mkF m 68 #[.val (.int k), .val (.int r)] [])) _
        refine st5 _ ?_
        show Steps p.tables e below (T5.setTop (mkF m 71 #[.val (.int k), .val (.int r)] [(.ref w_START)])) _
        exact retOut X5 hx Bd.returns rfl (Or.inr (Or.inr (Or.inr (Or.inr ⟨rfl, rfl, rfl⟩)))) (hb hby d_method_3_code_71) hretL
      · show Q_rmexp Z k r w_JOIN w_SUSPEND_AND_START w_SUSPEND_AND_RUN_WITHOUT w_REFUSE_RUNNING w_NEST w_START w_REFUSE_NONE_RUNNING w_RUN_WITHOUT h0 n0 _ T5.heap _
        rw [e5]
        exact ⟨by simp only [ex, if_pos hc1_2, if_pos hc54_4], N0, rfl⟩
    · have pre6 : ∀ tgt, Steps p.tables e below (s₁.setTop (mkF m 59 #[.val (.int k), .val (.int r)] [(.int (3 : Int32)), (.int k)])) tgt → Steps p.tables e below (s₁.setTop (entryFrame m #[(.int k), (.int r)] 2)) tgt := by
        intro tgt kgo
        refine pre3 _ ?_
        refine XS.ifNo X0.here hx rfl (hb hby d_method_3_code_54) rfl ((if0 _ _).trans (feq hc54_4).1) ?_
        show Steps p.tables e below (s₁.setTop (mkF m 57 #[.val (.int k), .val (.int r)] [])) _
        refine XS.iloadN X0.here hx rfl (hb hby d_method_3_code_57) rfl ?_
        show Steps p.tables e below (s₁.setTop (mkF m 58 #[.val (.int k), .val (.int r)] [(.int k)])) _
        refine XS.iconst X0.here hx rfl (hb hby d_method_3_code_58) ?_
        show Steps p.tables e below (s₁.setTop (mkF m 59 #[.val (.int k), .val (.int r)] [(.int (3 : Int32)), (.int k)])) _
        exact kgo
      by_cases hc59_7 : k = (3 : Int32)
      · obtain ⟨T8, X8, e8, st8⟩ := getS2 X0 hx hZ hown (host := "") (Or.inl (ow38 hw)) Via.refl e0 (S_START.ext O0.2) (g := (mkF m 68 #[.val (.int k), .val (.int r)] [])) rfl (hb hby d_method_3_code_68)
        obtain ⟨fs, hretL, hrun, hended, hW, hsame⟩ := X8.leave (v := some (.ref w_START)) (fun h => by rw [Bd.returns] at h; cases h)
        refine ⟨_, _, pre6 _ ?_, hrun, hended, _, _, rfl, ?_, ⟨_, rfl⟩, hW, hsame.mono (by decide) (by decide)⟩
        · refine XS.icmpYes X0.here hx rfl (pc0 := 59) (pc' := 68) rfl (hb hby d_method_3_code_59) rfl (teq hc59_7).1 (by decide) (by decide) ?_
          show Steps p.tables e below (s₁.setTop (mkF m 68 #[.val (.int k), .val (.int r)] [])) _
          refine st8 _ ?_
          show Steps p.tables e below (T8.setTop (mkF m 71 #[.val (.int k), .val (.int r)] [(.ref w_START)])) _
          exact retOut X8 hx Bd.returns rfl (Or.inr (Or.inr (Or.inr (Or.inr ⟨rfl, rfl, rfl⟩)))) (hb hby d_method_3_code_71) hretL
        · show Q_rmexp Z k r w_JOIN w_SUSPEND_AND_START w_SUSPEND_AND_RUN_WITHOUT w_REFUSE_RUNNING w_NEST w_START w_REFUSE_NONE_RUNNING w_RUN_WITHOUT h0 n0 _ T8.heap _
          rw [e8]
          exact ⟨by simp only [ex, if_pos hc1_2, if_neg hc54_4, if_pos hc59_7], N0, rfl⟩
      · have pre9 : ∀ tgt, Steps p.tables e below (s₁.setTop (mkF m 65 #[.val (.int k), .val (.int r)] [(.int (6 : Int32)), (.int k)])) tgt → Steps p.tables e below (s₁.setTop (entryFrame m #[(.int k), (.int r)] 2)) tgt := by
          intro tgt kgo
          refine pre6 _ ?_
          refine XS.icmpNo X0.here hx rfl (hb hby d_method_3_code_59) rfl (feq hc59_7).1 ?_
          show Steps p.tables e below (s₁.setTop (mkF m 62 #[.val (.int k), .val (.int r)] [])) _
          refine XS.iloadN X0.here hx rfl (hb hby d_method_3_code_62) rfl ?_
          show Steps p.tables e below (s₁.setTop (mkF m 63 #[.val (.int k), .val (.int r)] [(.int k)])) _
          refine XS.bipush X0.here hx rfl (hb hby d_method_3_code_63) ?_
          show Steps p.tables e below (s₁.setTop (mkF m 65 #[.val (.int k), .val (.int r)] [(.int (6 : Int32)), (.int k)])) _
          exact kgo
        by_cases hc65_10 : k = (6 : Int32)
        · obtain ⟨T11, X11, e11, st11⟩ := getS2 X0 hx hZ hown (host := "") (Or.inl (ow38 hw)) Via.refl e0 (S_START.ext O0.2) (g := (mkF m 68 #[.val (.int k), .val (.int r)] [])) rfl (hb hby d_method_3_code_68)
          obtain ⟨fs, hretL, hrun, hended, hW, hsame⟩ := X11.leave (v := some (.ref w_START)) (fun h => by rw [Bd.returns] at h; cases h)
          refine ⟨_, _, pre9 _ ?_, hrun, hended, _, _, rfl, ?_, ⟨_, rfl⟩, hW, hsame.mono (by decide) (by decide)⟩
          · refine XS.icmpNo X0.here hx rfl (hb hby d_method_3_code_65) rfl (teq hc65_10).2 ?_
            show Steps p.tables e below (s₁.setTop (mkF m 68 #[.val (.int k), .val (.int r)] [])) _
            refine st11 _ ?_
            show Steps p.tables e below (T11.setTop (mkF m 71 #[.val (.int k), .val (.int r)] [(.ref w_START)])) _
            exact retOut X11 hx Bd.returns rfl (Or.inr (Or.inr (Or.inr (Or.inr ⟨rfl, rfl, rfl⟩)))) (hb hby d_method_3_code_71) hretL
          · show Q_rmexp Z k r w_JOIN w_SUSPEND_AND_START w_SUSPEND_AND_RUN_WITHOUT w_REFUSE_RUNNING w_NEST w_START w_REFUSE_NONE_RUNNING w_RUN_WITHOUT h0 n0 _ T11.heap _
            rw [e11]
            exact ⟨by simp only [ex, if_pos hc1_2, if_neg hc54_4, if_neg hc59_7, if_pos hc65_10], N0, rfl⟩
        · have pre12 : ∀ tgt, Steps p.tables e below (s₁.setTop (mkF m 74 #[.val (.int k), .val (.int r)] [(.int (2 : Int32)), (.int k)])) tgt → Steps p.tables e below (s₁.setTop (entryFrame m #[(.int k), (.int r)] 2)) tgt := by
            intro tgt kgo
            refine pre9 _ ?_
            refine XS.icmpYes X0.here hx rfl (pc0 := 65) (pc' := 72) rfl (hb hby d_method_3_code_65) rfl (feq hc65_10).2 (by decide) (by decide) ?_
            show Steps p.tables e below (s₁.setTop (mkF m 72 #[.val (.int k), .val (.int r)] [])) _
            refine XS.iloadN X0.here hx rfl (hb hby d_method_3_code_72) rfl ?_
            show Steps p.tables e below (s₁.setTop (mkF m 73 #[.val (.int k), .val (.int r)] [(.int k)])) _
            refine XS.iconst X0.here hx rfl (hb hby d_method_3_code_73) ?_
            show Steps p.tables e below (s₁.setTop (mkF m 74 #[.val (.int k), .val (.int r)] [(.int (2 : Int32)), (.int k)])) _
            exact kgo
          by_cases hc74_13 : k = (2 : Int32)
          · obtain ⟨T14, X14, e14, st14⟩ := getS2 X0 hx hZ hown (host := "") (Or.inl (ow46 hw)) Via.refl e0 (S_REFUSE_NONE_RUNNING.ext O0.2) (g := (mkF m 77 #[.val (.int k), .val (.int r)] [])) rfl (hb hby d_method_3_code_77)
            obtain ⟨fs, hretL, hrun, hended, hW, hsame⟩ := X14.leave (v := some (.ref w_REFUSE_NONE_RUNNING)) (fun h => by rw [Bd.returns] at h; cases h)
            refine ⟨_, _, pre12 _ ?_, hrun, hended, _, _, rfl, ?_, ⟨_, rfl⟩, hW, hsame.mono (by decide) (by decide)⟩
            · refine XS.icmpNo X0.here hx rfl (hb hby d_method_3_code_74) rfl (teq hc74_13).2 ?_
              show Steps p.tables e below (s₁.setTop (mkF m 77 #[.val (.int k), .val (.int r)] [])) _
              refine st14 _ ?_
              show Steps p.tables e below (T14.setTop (mkF m 80 #[.val (.int k), .val (.int r)] [(.ref w_REFUSE_NONE_RUNNING)])) _
              exact retOut X14 hx Bd.returns rfl (Or.inr (Or.inr (Or.inr (Or.inr ⟨rfl, rfl, rfl⟩)))) (hb hby d_method_3_code_80) hretL
            · show Q_rmexp Z k r w_JOIN w_SUSPEND_AND_START w_SUSPEND_AND_RUN_WITHOUT w_REFUSE_RUNNING w_NEST w_START w_REFUSE_NONE_RUNNING w_RUN_WITHOUT h0 n0 _ T14.heap _
              rw [e14]
              exact ⟨by simp only [ex, if_pos hc1_2, if_neg hc54_4, if_neg hc59_7, if_neg hc65_10, if_pos hc74_13], N0, rfl⟩
          · obtain ⟨T15, X15, e15, st15⟩ := getS2 X0 hx hZ hown (host := "") (Or.inl (ow30 hw)) Via.refl e0 (S_RUN_WITHOUT.ext O0.2) (g := (mkF m 81 #[.val (.int k), .val (.int r)] [])) rfl (hb hby d_method_3_code_81)
            obtain ⟨fs, hretL, hrun, hended, hW, hsame⟩ := X15.leave (v := some (.ref w_RUN_WITHOUT)) (fun h => by rw [Bd.returns] at h; cases h)
            refine ⟨_, _, pre12 _ ?_, hrun, hended, _, _, rfl, ?_, ⟨_, rfl⟩, hW, hsame.mono (by decide) (by decide)⟩
            · refine XS.icmpYes X0.here hx rfl (pc0 := 74) (pc' := 81) rfl (hb hby d_method_3_code_74) rfl (feq hc74_13).2 (by decide) (by decide) ?_
              show Steps p.tables e below (s₁.setTop (mkF m 81 #[.val (.int k), .val (.int r)] [])) _
              refine st15 _ ?_
              show Steps p.tables e below (T15.setTop (mkF m 84 #[.val (.int k), .val (.int r)] [(.ref w_RUN_WITHOUT)])) _
              exact retOut X15 hx Bd.returns rfl (Or.inr (Or.inr (Or.inr (Or.inr ⟨rfl, rfl, rfl⟩)))) (hb hby d_method_3_code_84) hretL
            · show Q_rmexp Z k r w_JOIN w_SUSPEND_AND_START w_SUSPEND_AND_RUN_WITHOUT w_REFUSE_RUNNING w_NEST w_START w_REFUSE_NONE_RUNNING w_RUN_WITHOUT h0 n0 _ T15.heap _
              rw [e15]
              exact ⟨by simp only [ex, if_pos hc1_2, if_neg hc54_4, if_neg hc59_7, if_neg hc65_10, if_neg hc74_13], N0, rfl⟩
  · have pre16 : ∀ tgt, Steps p.tables e below (s₁.setTop (mkF m 5 #[.val (.int k), .val (.int r)] [(.int k)])) tgt → Steps p.tables e below (s₁.setTop (entryFrame m #[(.int k), (.int r)] 2)) tgt := by
      intro tgt kgo
      refine pre1 _ ?_
      refine XS.ifNo X0.here hx rfl (hb hby d_method_3_code_1) rfl ((if0 _ _).trans (feq hc1_2).1) ?_
      show Steps p.tables e below (s₁.setTop (mkF m 4 #[.val (.int k), .val (.int r)] [])) _
      refine XS.iloadN X0.here hx rfl (hb hby d_method_3_code_4) rfl ?_
      show Steps p.tables e below (s₁.setTop (mkF m 5 #[.val (.int k), .val (.int r)] [(.int k)])) _
      exact kgo
    by_cases hc5_17 : k = (0 : Int32)
    · obtain ⟨T18, X18, e18, st18⟩ := getS2 X0 hx hZ hown (host := "") (Or.inl (ow20 hw)) Via.refl e0 (S_JOIN.ext O0.2) (g := (mkF m 18 #[.val (.int k), .val (.int r)] [])) rfl (hb hby d_method_3_code_18)
      obtain ⟨fs, hretL, hrun, hended, hW, hsame⟩ := X18.leave (v := some (.ref w_JOIN)) (fun h => by rw [Bd.returns] at h; cases h)
      refine ⟨_, _, pre16 _ ?_, hrun, hended, _, _, rfl, ?_, ⟨_, rfl⟩, hW, hsame.mono (by decide) (by decide)⟩
      · refine XS.ifYes X0.here hx rfl (pc0 := 5) (pc' := 18) rfl (hb hby d_method_3_code_5) rfl ((if0 _ _).trans (teq hc5_17).1) (by decide) (by decide) ?_
        show Steps p.tables e below (s₁.setTop (mkF m 18 #[.val (.int k), .val (.int r)] [])) _
        refine st18 _ ?_
        show Steps p.tables e below (T18.setTop (mkF m 21 #[.val (.int k), .val (.int r)] [(.ref w_JOIN)])) _
        exact retOut X18 hx Bd.returns rfl (Or.inr (Or.inr (Or.inr (Or.inr ⟨rfl, rfl, rfl⟩)))) (hb hby d_method_3_code_21) hretL
      · show Q_rmexp Z k r w_JOIN w_SUSPEND_AND_START w_SUSPEND_AND_RUN_WITHOUT w_REFUSE_RUNNING w_NEST w_START w_REFUSE_NONE_RUNNING w_RUN_WITHOUT h0 n0 _ T18.heap _
        rw [e18]
        exact ⟨by simp only [ex, if_neg hc1_2, if_pos hc5_17], N0, rfl⟩
    · have pre19 : ∀ tgt, Steps p.tables e below (s₁.setTop (mkF m 10 #[.val (.int k), .val (.int r)] [(.int (1 : Int32)), (.int k)])) tgt → Steps p.tables e below (s₁.setTop (entryFrame m #[(.int k), (.int r)] 2)) tgt := by
        intro tgt kgo
        refine pre16 _ ?_
        refine XS.ifNo X0.here hx rfl (hb hby d_method_3_code_5) rfl ((if0 _ _).trans (feq hc5_17).1) ?_
        show Steps p.tables e below (s₁.setTop (mkF m 8 #[.val (.int k), .val (.int r)] [])) _
        refine XS.iloadN X0.here hx rfl (hb hby d_method_3_code_8) rfl ?_
        show Steps p.tables e below (s₁.setTop (mkF m 9 #[.val (.int k), .val (.int r)] [(.int k)])) _
        refine XS.iconst X0.here hx rfl (hb hby d_method_3_code_9) ?_
        show Steps p.tables e below (s₁.setTop (mkF m 10 #[.val (.int k), .val (.int r)] [(.int (1 : Int32)), (.int k)])) _
        exact kgo
      by_cases hc10_20 : k = (1 : Int32)
      · obtain ⟨T21, X21, e21, st21⟩ := getS2 X0 hx hZ hown (host := "") (Or.inl (ow20 hw)) Via.refl e0 (S_JOIN.ext O0.2) (g := (mkF m 18 #[.val (.int k), .val (.int r)] [])) rfl (hb hby d_method_3_code_18)
        obtain ⟨fs, hretL, hrun, hended, hW, hsame⟩ := X21.leave (v := some (.ref w_JOIN)) (fun h => by rw [Bd.returns] at h; cases h)
        refine ⟨_, _, pre19 _ ?_, hrun, hended, _, _, rfl, ?_, ⟨_, rfl⟩, hW, hsame.mono (by decide) (by decide)⟩
        · refine XS.icmpYes X0.here hx rfl (pc0 := 10) (pc' := 18) rfl (hb hby d_method_3_code_10) rfl (teq hc10_20).1 (by decide) (by decide) ?_
          show Steps p.tables e below (s₁.setTop (mkF m 18 #[.val (.int k), .val (.int r)] [])) _
          refine st21 _ ?_
          show Steps p.tables e below (T21.setTop (mkF m 21 #[.val (.int k), .val (.int r)] [(.ref w_JOIN)])) _
          exact retOut X21 hx Bd.returns rfl (Or.inr (Or.inr (Or.inr (Or.inr ⟨rfl, rfl, rfl⟩)))) (hb hby d_method_3_code_21) hretL
        · show Q_rmexp Z k r w_JOIN w_SUSPEND_AND_START w_SUSPEND_AND_RUN_WITHOUT w_REFUSE_RUNNING w_NEST w_START w_REFUSE_NONE_RUNNING w_RUN_WITHOUT h0 n0 _ T21.heap _
          rw [e21]
          exact ⟨by simp only [ex, if_neg hc1_2, if_neg hc5_17, if_pos hc10_20], N0, rfl⟩
      · have pre22 : ∀ tgt, Steps p.tables e below (s₁.setTop (mkF m 15 #[.val (.int k), .val (.int r)] [(.int (2 : Int32)), (.int k)])) tgt → Steps p.tables e below (s₁.setTop (entryFrame m #[(.int k), (.int r)] 2)) tgt := by
          intro tgt kgo
          refine pre19 _ ?_
          refine XS.icmpNo X0.here hx rfl (hb hby d_method_3_code_10) rfl (feq hc10_20).1 ?_
          show Steps p.tables e below (s₁.setTop (mkF m 13 #[.val (.int k), .val (.int r)] [])) _
          refine XS.iloadN X0.here hx rfl (hb hby d_method_3_code_13) rfl ?_
          show Steps p.tables e below (s₁.setTop (mkF m 14 #[.val (.int k), .val (.int r)] [(.int k)])) _
          refine XS.iconst X0.here hx rfl (hb hby d_method_3_code_14) ?_
          show Steps p.tables e below (s₁.setTop (mkF m 15 #[.val (.int k), .val (.int r)] [(.int (2 : Int32)), (.int k)])) _
          exact kgo
        by_cases hc15_23 : k = (2 : Int32)
        · obtain ⟨T24, X24, e24, st24⟩ := getS2 X0 hx hZ hown (host := "") (Or.inl (ow20 hw)) Via.refl e0 (S_JOIN.ext O0.2) (g := (mkF m 18 #[.val (.int k), .val (.int r)] [])) rfl (hb hby d_method_3_code_18)
          obtain ⟨fs, hretL, hrun, hended, hW, hsame⟩ := X24.leave (v := some (.ref w_JOIN)) (fun h => by rw [Bd.returns] at h; cases h)
          refine ⟨_, _, pre22 _ ?_, hrun, hended, _, _, rfl, ?_, ⟨_, rfl⟩, hW, hsame.mono (by decide) (by decide)⟩
          · refine XS.icmpNo X0.here hx rfl (hb hby d_method_3_code_15) rfl (teq hc15_23).2 ?_
            show Steps p.tables e below (s₁.setTop (mkF m 18 #[.val (.int k), .val (.int r)] [])) _
            refine st24 _ ?_
            show Steps p.tables e below (T24.setTop (mkF m 21 #[.val (.int k), .val (.int r)] [(.ref w_JOIN)])) _
            exact retOut X24 hx Bd.returns rfl (Or.inr (Or.inr (Or.inr (Or.inr ⟨rfl, rfl, rfl⟩)))) (hb hby d_method_3_code_21) hretL
          · show Q_rmexp Z k r w_JOIN w_SUSPEND_AND_START w_SUSPEND_AND_RUN_WITHOUT w_REFUSE_RUNNING w_NEST w_START w_REFUSE_NONE_RUNNING w_RUN_WITHOUT h0 n0 _ T24.heap _
            rw [e24]
            exact ⟨by simp only [ex, if_neg hc1_2, if_neg hc5_17, if_neg hc10_20, if_pos hc15_23], N0, rfl⟩
        · have pre25 : ∀ tgt, Steps p.tables e below (s₁.setTop (mkF m 24 #[.val (.int k), .val (.int r)] [(.int (3 : Int32)), (.int k)])) tgt → Steps p.tables e below (s₁.setTop (entryFrame m #[(.int k), (.int r)] 2)) tgt := by
            intro tgt kgo
            refine pre22 _ ?_
            refine XS.icmpYes X0.here hx rfl (pc0 := 15) (pc' := 22) rfl (hb hby d_method_3_code_15) rfl (feq hc15_23).2 (by decide) (by decide) ?_
            show Steps p.tables e below (s₁.setTop (mkF m 22 #[.val (.int k), .val (.int r)] [])) _
            refine XS.iloadN X0.here hx rfl (hb hby d_method_3_code_22) rfl ?_
            show Steps p.tables e below (s₁.setTop (mkF m 23 #[.val (.int k), .val (.int r)] [(.int k)])) _
            refine XS.iconst X0.here hx rfl (hb hby d_method_3_code_23) ?_
            show Steps p.tables e below (s₁.setTop (mkF m 24 #[.val (.int k), .val (.int r)] [(.int (3 : Int32)), (.int k)])) _
            exact kgo
          by_cases hc24_26 : k = (3 : Int32)
          · obtain ⟨T27, X27, e27, st27⟩ := getS2 X0 hx hZ hown (host := "") (Or.inl (ow24 hw)) Via.refl e0 (S_SUSPEND_AND_START.ext O0.2) (g := (mkF m 27 #[.val (.int k), .val (.int r)] [])) rfl (hb hby d_method_3_code_27)
            obtain ⟨fs, hretL, hrun, hended, hW, hsame⟩ := X27.leave (v := some (.ref w_SUSPEND_AND_START)) (fun h => by rw [Bd.returns] at h; cases h)
            refine ⟨_, _, pre25 _ ?_, hrun, hended, _, _, rfl, ?_, ⟨_, rfl⟩, hW, hsame.mono (by decide) (by decide)⟩
            · refine XS.icmpNo X0.here hx rfl (hb hby d_method_3_code_24) rfl (teq hc24_26).2 ?_
              show Steps p.tables e below (s₁.setTop (mkF m 27 #[.val (.int k), .val (.int r)] [])) _
              refine st27 _ ?_
              show Steps p.tables e below (T27.setTop (mkF m 30 #[.val (.int k), .val (.int r)] [(.ref w_SUSPEND_AND_START)])) _
              exact retOut X27 hx Bd.returns rfl (Or.inr (Or.inr (Or.inr (Or.inr ⟨rfl, rfl, rfl⟩)))) (hb hby d_method_3_code_30) hretL
            · show Q_rmexp Z k r w_JOIN w_SUSPEND_AND_START w_SUSPEND_AND_RUN_WITHOUT w_REFUSE_RUNNING w_NEST w_START w_REFUSE_NONE_RUNNING w_RUN_WITHOUT h0 n0 _ T27.heap _
              rw [e27]
              exact ⟨by simp only [ex, if_neg hc1_2, if_neg hc5_17, if_neg hc10_20, if_neg hc15_23, if_pos hc24_26], N0, rfl⟩
          · have pre28 : ∀ tgt, Steps p.tables e below (s₁.setTop (mkF m 33 #[.val (.int k), .val (.int r)] [(.int (4 : Int32)), (.int k)])) tgt → Steps p.tables e below (s₁.setTop (entryFrame m #[(.int k), (.int r)] 2)) tgt := by
              intro tgt kgo
              refine pre25 _ ?_
              refine XS.icmpYes X0.here hx rfl (pc0 := 24) (pc' := 31) rfl (hb hby d_method_3_code_24) rfl (feq hc24_26).2 (by decide) (by decide) ?_
              show Steps p.tables e below (s₁.setTop (mkF m 31 #[.val (.int k), .val (.int r)] [])) _
              refine XS.iloadN X0.here hx rfl (hb hby d_method_3_code_31) rfl ?_
              show Steps p.tables e below (s₁.setTop (mkF m 32 #[.val (.int k), .val (.int r)] [(.int k)])) _
              refine XS.iconst X0.here hx rfl (hb hby d_method_3_code_32) ?_
              show Steps p.tables e below (s₁.setTop (mkF m 33 #[.val (.int k), .val (.int r)] [(.int (4 : Int32)), (.int k)])) _
              exact kgo
            by_cases hc33_29 : k = (4 : Int32)
            · obtain ⟨T30, X30, e30, st30⟩ := getS2 X0 hx hZ hown (host := "") (Or.inl (ow34 hw)) Via.refl e0 (S_SUSPEND_AND_RUN_WITHOUT.ext O0.2) (g := (mkF m 36 #[.val (.int k), .val (.int r)] [])) rfl (hb hby d_method_3_code_36)
              obtain ⟨fs, hretL, hrun, hended, hW, hsame⟩ := X30.leave (v := some (.ref w_SUSPEND_AND_RUN_WITHOUT)) (fun h => by rw [Bd.returns] at h; cases h)
              refine ⟨_, _, pre28 _ ?_, hrun, hended, _, _, rfl, ?_, ⟨_, rfl⟩, hW, hsame.mono (by decide) (by decide)⟩
              · refine XS.icmpNo X0.here hx rfl (hb hby d_method_3_code_33) rfl (teq hc33_29).2 ?_
                show Steps p.tables e below (s₁.setTop (mkF m 36 #[.val (.int k), .val (.int r)] [])) _
                refine st30 _ ?_
                show Steps p.tables e below (T30.setTop (mkF m 39 #[.val (.int k), .val (.int r)] [(.ref w_SUSPEND_AND_RUN_WITHOUT)])) _
                exact retOut X30 hx Bd.returns rfl (Or.inr (Or.inr (Or.inr (Or.inr ⟨rfl, rfl, rfl⟩)))) (hb hby d_method_3_code_39) hretL
              · show Q_rmexp Z k r w_JOIN w_SUSPEND_AND_START w_SUSPEND_AND_RUN_WITHOUT w_REFUSE_RUNNING w_NEST w_START w_REFUSE_NONE_RUNNING w_RUN_WITHOUT h0 n0 _ T30.heap _
                rw [e30]
                exact ⟨by simp only [ex, if_neg hc1_2, if_neg hc5_17, if_neg hc10_20, if_neg hc15_23, if_neg hc24_26, if_pos hc33_29], N0, rfl⟩
            · have pre31 : ∀ tgt, Steps p.tables e below (s₁.setTop (mkF m 42 #[.val (.int k), .val (.int r)] [(.int (5 : Int32)), (.int k)])) tgt → Steps p.tables e below (s₁.setTop (entryFrame m #[(.int k), (.int r)] 2)) tgt := by
                intro tgt kgo
                refine pre28 _ ?_
                refine XS.icmpYes X0.here hx rfl (pc0 := 33) (pc' := 40) rfl (hb hby d_method_3_code_33) rfl (feq hc33_29).2 (by decide) (by decide) ?_
                show Steps p.tables e below (s₁.setTop (mkF m 40 #[.val (.int k), .val (.int r)] [])) _
                refine XS.iloadN X0.here hx rfl (hb hby d_method_3_code_40) rfl ?_
                show Steps p.tables e below (s₁.setTop (mkF m 41 #[.val (.int k), .val (.int r)] [(.int k)])) _
                refine XS.iconst X0.here hx rfl (hb hby d_method_3_code_41) ?_
                show Steps p.tables e below (s₁.setTop (mkF m 42 #[.val (.int k), .val (.int r)] [(.int (5 : Int32)), (.int k)])) _
                exact kgo
              by_cases hc42_32 : k = (5 : Int32)
              · obtain ⟨T33, X33, e33, st33⟩ := getS2 X0 hx hZ hown (host := "") (Or.inl (ow42 hw)) Via.refl e0 (S_REFUSE_RUNNING.ext O0.2) (g := (mkF m 45 #[.val (.int k), .val (.int r)] [])) rfl (hb hby d_method_3_code_45)
                obtain ⟨fs, hretL, hrun, hended, hW, hsame⟩ := X33.leave (v := some (.ref w_REFUSE_RUNNING)) (fun h => by rw [Bd.returns] at h; cases h)
                refine ⟨_, _, pre31 _ ?_, hrun, hended, _, _, rfl, ?_, ⟨_, rfl⟩, hW, hsame.mono (by decide) (by decide)⟩
                · refine XS.icmpNo X0.here hx rfl (hb hby d_method_3_code_42) rfl (teq hc42_32).2 ?_
                  show Steps p.tables e below (s₁.setTop (mkF m 45 #[.val (.int k), .val (.int r)] [])) _
                  refine st33 _ ?_
                  show Steps p.tables e below (T33.setTop (mkF m 48 #[.val (.int k), .val (.int r)] [(.ref w_REFUSE_RUNNING)])) _
                  exact retOut X33 hx Bd.returns rfl (Or.inr (Or.inr (Or.inr (Or.inr ⟨rfl, rfl, rfl⟩)))) (hb hby d_method_3_code_48) hretL
                · show Q_rmexp Z k r w_JOIN w_SUSPEND_AND_START w_SUSPEND_AND_RUN_WITHOUT w_REFUSE_RUNNING w_NEST w_START w_REFUSE_NONE_RUNNING w_RUN_WITHOUT h0 n0 _ T33.heap _
                  rw [e33]
                  exact ⟨by simp only [ex, if_neg hc1_2, if_neg hc5_17, if_neg hc10_20, if_neg hc15_23, if_neg hc24_26, if_neg hc33_29, if_pos hc42_32], N0, rfl⟩
              · obtain ⟨T34, X34, e34, st34⟩ := getS2 X0 hx hZ hown (host := "") (Or.inl (ow48 hw)) Via.refl e0 (S_NEST.ext O0.2) (g := (mkF m 49 #[.val (.int k), .val (.int r)] [])) rfl (hb hby d_method_3_code_49)
                obtain ⟨fs, hretL, hrun, hended, hW, hsame⟩ := X34.leave (v := some (.ref w_NEST)) (fun h => by rw [Bd.returns] at h; cases h)
                refine ⟨_, _, pre31 _ ?_, hrun, hended, _, _, rfl, ?_, ⟨_, rfl⟩, hW, hsame.mono (by decide) (by decide)⟩
                · refine XS.icmpYes X0.here hx rfl (pc0 := 42) (pc' := 49) rfl (hb hby d_method_3_code_42) rfl (feq hc42_32).2 (by decide) (by decide) ?_
                  show Steps p.tables e below (s₁.setTop (mkF m 49 #[.val (.int k), .val (.int r)] [])) _
                  refine st34 _ ?_
                  show Steps p.tables e below (T34.setTop (mkF m 52 #[.val (.int k), .val (.int r)] [(.ref w_NEST)])) _
                  exact retOut X34 hx Bd.returns rfl (Or.inr (Or.inr (Or.inr (Or.inr ⟨rfl, rfl, rfl⟩)))) (hb hby d_method_3_code_52) hretL
                · show Q_rmexp Z k r w_JOIN w_SUSPEND_AND_START w_SUSPEND_AND_RUN_WITHOUT w_REFUSE_RUNNING w_NEST w_START w_REFUSE_NONE_RUNNING w_RUN_WITHOUT h0 n0 _ T34.heap _
                  rw [e34]
                  exact ⟨by simp only [ex, if_neg hc1_2, if_neg hc5_17, if_neg hc10_20, if_neg hc15_23, if_neg hc24_26, if_neg hc33_29, if_neg hc42_32], N0, rfl⟩
theorem own_law {i x z : Int32} {jo ss sr rr ne st rn rw : Addr} (h : i = (x &&& (2147483647 : Int32)) % (7 : Int32)) :
    dc z (pk i jo jo jo ss sr rr ne) (pk i st rw rn st rw rw st) = ex i z jo ss sr rr ne st rn rw := by
  have hm := own_mod7 h
  clear h
  by_cases hz : z = 0 <;> rcases hm with rfl | rfl | rfl | rfl | rfl | rfl | rfl <;> simp [pk, dc, ex, hz]
def Q_rm0 (Z : State) (x0 : Int32) (x1 : Int32) (w_REQUIRED : Addr) (w_JOIN : Addr) (w_REQUIRES_NEW : Addr) (w_SUSPEND_AND_START : Addr) (w_SUPPORTS : Addr) (w_RUN_WITHOUT : Addr) (w_NOT_SUPPORTED : Addr) (w_SUSPEND_AND_RUN_WITHOUT : Addr) (w_NESTED : Addr) (w_START : Addr) (w_NEVER : Addr) (w_REFUSE_RUNNING : Addr) (w_MANDATORY : Addr) (w_REFUSE_NONE_RUNNING : Addr) (w_NEST : Addr) (h0 : Heap) (n0 : Nat) (v : Option Value) (h : Heap) (L : List Loc) : Prop := v = some (.int (1 : Int32)) ∧ Fr n0 L
theorem ef_rm0 (m : MethodId) (x0 : Int32) (x1 : Int32) : entryFrame m #[(.int x0), (.int x1)] maxLocals = mkF m 0 #[.val (.int x0), .val (.int x1), .unset, .unset, .unset, .unset] [] := by first | (simp [entryFrame, mkF, argsToLocals, Value.category, maxLocals]; done) | rfl
set_option maxRecDepth 65536 in
set_option maxHeartbeats 40000000 in
theorem rm0 (l : Launch) (Z : State) (a0 : Array Value) (hw : ∀ d ∈ tables_1, d.before a0 Z = true) (ws : List Jvm.Cond) (x0 : Int32) (x1 : Int32) (w_REQUIRED : Addr) (w_JOIN : Addr) (w_REQUIRES_NEW : Addr) (w_SUSPEND_AND_START : Addr) (w_SUPPORTS : Addr) (w_RUN_WITHOUT : Addr) (w_NOT_SUPPORTED : Addr) (w_SUSPEND_AND_RUN_WITHOUT : Addr) (w_NESTED : Addr) (w_START : Addr) (w_NEVER : Addr) (w_REFUSE_RUNNING : Addr) (w_MANDATORY : Addr) (w_REFUSE_NONE_RUNNING : Addr) (w_NEST : Addr) (h0 : Heap) (n0 : Nat) (O0 : Old Z n0 h0) (S_REQUIRED : Sta Z Z.heap "com/example/tx_at_boundaries/txatboundaries/boundary/Propagation" "REQUIRED" "Lcom/example/tx_at_boundaries/txatboundaries/boundary/Propagation;" (.ref w_REQUIRED)) (E_REQUIRED : Exa Z Z.heap w_REQUIRED "com/example/tx_at_boundaries/txatboundaries/boundary/Propagation") (S_JOIN : Sta Z Z.heap "com/example/tx_at_boundaries/txatboundaries/boundary/Propagation$Action" "JOIN" "Lcom/example/tx_at_boundaries/txatboundaries/boundary/Propagation$Action;" (.ref w_JOIN)) (E_JOIN : Exa Z Z.heap w_JOIN "com/example/tx_at_boundaries/txatboundaries/boundary/Propagation$Action") (S_REQUIRES_NEW : Sta Z Z.heap "com/example/tx_at_boundaries/txatboundaries/boundary/Propagation" "REQUIRES_NEW" "Lcom/example/tx_at_boundaries/txatboundaries/boundary/Propagation;" (.ref w_REQUIRES_NEW)) (E_REQUIRES_NEW : Exa Z Z.heap w_REQUIRES_NEW "com/example/tx_at_boundaries/txatboundaries/boundary/Propagation") (S_SUSPEND_AND_START : Sta Z Z.heap "com/example/tx_at_boundaries/txatboundaries/boundary/Propagation$Action" "SUSPEND_AND_START" "Lcom/example/tx_at_boundaries/txatboundaries/boundary/Propagation$Action;" (.ref w_SUSPEND_AND_START)) (E_SUSPEND_AND_START : Exa Z Z.heap w_SUSPEND_AND_START "com/example/tx_at_boundaries/txatboundaries/boundary/Propagation$Action") (S_SUPPORTS : Sta Z Z.heap "com/example/tx_at_boundaries/txatboundaries/boundary/Propagation" "SUPPORTS" "Lcom/example/tx_at_boundaries/txatboundaries/boundary/Propagation;" (.ref w_SUPPORTS)) (E_SUPPORTS : Exa Z Z.heap w_SUPPORTS "com/example/tx_at_boundaries/txatboundaries/boundary/Propagation") (S_RUN_WITHOUT : Sta Z Z.heap "com/example/tx_at_boundaries/txatboundaries/boundary/Propagation$Action" "RUN_WITHOUT" "Lcom/example/tx_at_boundaries/txatboundaries/boundary/Propagation$Action;" (.ref w_RUN_WITHOUT)) (E_RUN_WITHOUT : Exa Z Z.heap w_RUN_WITHOUT "com/example/tx_at_boundaries/txatboundaries/boundary/Propagation$Action") (S_NOT_SUPPORTED : Sta Z Z.heap "com/example/tx_at_boundaries/txatboundaries/boundary/Propagation" "NOT_SUPPORTED" "Lcom/example/tx_at_boundaries/txatboundaries/boundary/Propagation;" (.ref w_NOT_SUPPORTED)) (E_NOT_SUPPORTED : Exa Z Z.heap w_NOT_SUPPORTED "com/example/tx_at_boundaries/txatboundaries/boundary/Propagation") (S_SUSPEND_AND_RUN_WITHOUT : Sta Z Z.heap "com/example/tx_at_boundaries/txatboundaries/boundary/Propagation$Action" "SUSPEND_AND_RUN_WITHOUT" "Lcom/example/tx_at_boundaries/txatboundaries/boundary/Propagation$Action;" (.ref w_SUSPEND_AND_RUN_WITHOUT)) (E_SUSPEND_AND_RUN_WITHOUT : Exa Z Z.heap w_SUSPEND_AND_RUN_WITHOUT "com/example/tx_at_boundaries/txatboundaries/boundary/Propagation$Action") (S_NESTED : Sta Z Z.heap "com/example/tx_at_boundaries/txatboundaries/boundary/Propagation" "NESTED" "Lcom/example/tx_at_boundaries/txatboundaries/boundary/Propagation;" (.ref w_NESTED)) (E_NESTED : Exa Z Z.heap w_NESTED "com/example/tx_at_boundaries/txatboundaries/boundary/Propagation") (S_START : Sta Z Z.heap "com/example/tx_at_boundaries/txatboundaries/boundary/Propagation$Action" "START" "Lcom/example/tx_at_boundaries/txatboundaries/boundary/Propagation$Action;" (.ref w_START)) (E_START : Exa Z Z.heap w_START "com/example/tx_at_boundaries/txatboundaries/boundary/Propagation$Action") (S_NEVER : Sta Z Z.heap "com/example/tx_at_boundaries/txatboundaries/boundary/Propagation" "NEVER" "Lcom/example/tx_at_boundaries/txatboundaries/boundary/Propagation;" (.ref w_NEVER)) (E_NEVER : Exa Z Z.heap w_NEVER "com/example/tx_at_boundaries/txatboundaries/boundary/Propagation") (S_REFUSE_RUNNING : Sta Z Z.heap "com/example/tx_at_boundaries/txatboundaries/boundary/Propagation$Action" "REFUSE_RUNNING" "Lcom/example/tx_at_boundaries/txatboundaries/boundary/Propagation$Action;" (.ref w_REFUSE_RUNNING)) (E_REFUSE_RUNNING : Exa Z Z.heap w_REFUSE_RUNNING "com/example/tx_at_boundaries/txatboundaries/boundary/Propagation$Action") (S_MANDATORY : Sta Z Z.heap "com/example/tx_at_boundaries/txatboundaries/boundary/Propagation" "MANDATORY" "Lcom/example/tx_at_boundaries/txatboundaries/boundary/Propagation;" (.ref w_MANDATORY)) (E_MANDATORY : Exa Z Z.heap w_MANDATORY "com/example/tx_at_boundaries/txatboundaries/boundary/Propagation") (S_REFUSE_NONE_RUNNING : Sta Z Z.heap "com/example/tx_at_boundaries/txatboundaries/boundary/Propagation$Action" "REFUSE_NONE_RUNNING" "Lcom/example/tx_at_boundaries/txatboundaries/boundary/Propagation$Action;" (.ref w_REFUSE_NONE_RUNNING)) (E_REFUSE_NONE_RUNNING : Exa Z Z.heap w_REFUSE_NONE_RUNNING "com/example/tx_at_boundaries/txatboundaries/boundary/Propagation$Action") (S_NEST : Sta Z Z.heap "com/example/tx_at_boundaries/txatboundaries/boundary/Propagation$Action" "NEST" "Lcom/example/tx_at_boundaries/txatboundaries/boundary/Propagation$Action;" (.ref w_NEST)) (E_NEST : Exa Z Z.heap w_NEST "com/example/tx_at_boundaries/txatboundaries/boundary/Propagation$Action") (F_REQUIRED_whenRunning : Fld Z Z.heap w_REQUIRED "com/example/tx_at_boundaries/txatboundaries/boundary/Propagation" "whenRunning" "Lcom/example/tx_at_boundaries/txatboundaries/boundary/Propagation$Action;" (.ref w_JOIN)) (F_REQUIRES_NEW_whenRunning : Fld Z Z.heap w_REQUIRES_NEW "com/example/tx_at_boundaries/txatboundaries/boundary/Propagation" "whenRunning" "Lcom/example/tx_at_boundaries/txatboundaries/boundary/Propagation$Action;" (.ref w_SUSPEND_AND_START)) (F_SUPPORTS_whenNoneRunning : Fld Z Z.heap w_SUPPORTS "com/example/tx_at_boundaries/txatboundaries/boundary/Propagation" "whenNoneRunning" "Lcom/example/tx_at_boundaries/txatboundaries/boundary/Propagation$Action;" (.ref w_RUN_WITHOUT)) (F_NOT_SUPPORTED_whenNoneRunning : Fld Z Z.heap w_NOT_SUPPORTED "com/example/tx_at_boundaries/txatboundaries/boundary/Propagation" "whenNoneRunning" "Lcom/example/tx_at_boundaries/txatboundaries/boundary/Propagation$Action;" (.ref w_RUN_WITHOUT)) (F_NOT_SUPPORTED_whenRunning : Fld Z Z.heap w_NOT_SUPPORTED "com/example/tx_at_boundaries/txatboundaries/boundary/Propagation" "whenRunning" "Lcom/example/tx_at_boundaries/txatboundaries/boundary/Propagation$Action;" (.ref w_SUSPEND_AND_RUN_WITHOUT)) (F_NESTED_whenNoneRunning : Fld Z Z.heap w_NESTED "com/example/tx_at_boundaries/txatboundaries/boundary/Propagation" "whenNoneRunning" "Lcom/example/tx_at_boundaries/txatboundaries/boundary/Propagation$Action;" (.ref w_START)) (F_SUPPORTS_whenRunning : Fld Z Z.heap w_SUPPORTS "com/example/tx_at_boundaries/txatboundaries/boundary/Propagation" "whenRunning" "Lcom/example/tx_at_boundaries/txatboundaries/boundary/Propagation$Action;" (.ref w_JOIN)) (F_NEVER_whenRunning : Fld Z Z.heap w_NEVER "com/example/tx_at_boundaries/txatboundaries/boundary/Propagation" "whenRunning" "Lcom/example/tx_at_boundaries/txatboundaries/boundary/Propagation$Action;" (.ref w_REFUSE_RUNNING)) (F_REQUIRED_whenNoneRunning : Fld Z Z.heap w_REQUIRED "com/example/tx_at_boundaries/txatboundaries/boundary/Propagation" "whenNoneRunning" "Lcom/example/tx_at_boundaries/txatboundaries/boundary/Propagation$Action;" (.ref w_START)) (F_NEVER_whenNoneRunning : Fld Z Z.heap w_NEVER "com/example/tx_at_boundaries/txatboundaries/boundary/Propagation" "whenNoneRunning" "Lcom/example/tx_at_boundaries/txatboundaries/boundary/Propagation$Action;" (.ref w_RUN_WITHOUT)) (F_MANDATORY_whenNoneRunning : Fld Z Z.heap w_MANDATORY "com/example/tx_at_boundaries/txatboundaries/boundary/Propagation" "whenNoneRunning" "Lcom/example/tx_at_boundaries/txatboundaries/boundary/Propagation$Action;" (.ref w_REFUSE_NONE_RUNNING)) (F_REQUIRES_NEW_whenNoneRunning : Fld Z Z.heap w_REQUIRES_NEW "com/example/tx_at_boundaries/txatboundaries/boundary/Propagation" "whenNoneRunning" "Lcom/example/tx_at_boundaries/txatboundaries/boundary/Propagation$Action;" (.ref w_START)) (F_NESTED_whenRunning : Fld Z Z.heap w_NESTED "com/example/tx_at_boundaries/txatboundaries/boundary/Propagation" "whenRunning" "Lcom/example/tx_at_boundaries/txatboundaries/boundary/Propagation$Action;" (.ref w_NEST)) (F_MANDATORY_whenRunning : Fld Z Z.heap w_MANDATORY "com/example/tx_at_boundaries/txatboundaries/boundary/Propagation" "whenRunning" "Lcom/example/tx_at_boundaries/txatboundaries/boundary/Propagation$Action;" (.ref w_JOIN)) :
    MetFree l x (head1 (Jvm.Cond.code x code maxLocals ret :: ws) room_1) (fun aa U => aa = #[(.int x0), (.int x1)] ∧ Z.Warmed39 U.vm ∧ U.heap = h0) (fun _ _ _ _ _ => True) (fun _ U o U' => ∃ v L, o = .returned v ∧ Q_rm0 Z x0 x1 w_REQUIRED w_JOIN w_REQUIRES_NEW w_SUSPEND_AND_START w_SUPPORTS w_RUN_WITHOUT w_NOT_SUPPORTED w_SUSPEND_AND_RUN_WITHOUT w_NESTED w_START w_NEVER w_REFUSE_RUNNING w_MANDATORY w_REFUSE_NONE_RUNNING w_NEST h0 n0 v U'.heap L ∧ FrameEnd U o U' L 0 0) := by
  refine MetFree.of_bodySF (plainFor_of_name pn0) hisR ?_
  intro p e s m args below meth c s₁ Bd hml0 hP hK
  obtain ⟨rfl, hZ, hh⟩ := hP
  have hx := Bd.exec
  have hby := Bd.bytes
  have hml : c.maxLocals = 6 := hml0
  have hown : s.vm.findClass "com/example/tx_at_boundaries/txatboundaries/boundary/PropagationDecidePinLaw" = some m.cls := findClass_of_methodNamed Bd.named
  have hnm := (name_of_methodNamed Bd.named Bd.method).1
  have X0 : Stand p l e room_1 s m #[(.int x0), (.int x1)] below meth c s₁ [] 0 0 := Stand.of_body Bd
  have e0 : s₁.heap = h0 := by rw [← hh, Bd.state]; rfl
  have N0 := Fr.nil n0
  have pre0 : ∀ tgt, Steps p.tables e below (s₁.setTop (mkF m 0 #[.val (.int x0), .val (.int x1), .unset, .unset, .unset, .unset] [])) tgt → Steps p.tables e below (s₁.setTop (entryFrame m #[(.int x0), (.int x1)] maxLocals)) tgt := fun tgt kgo => castTop (ef_rm0 m x0 x1) kgo
  have pre1 : ∀ tgt, Steps p.tables e below (s₁.setTop (mkF m 8 #[.val (.int x0), .val (.int x1), .val (.int ((x0 &&& (2147483647 : Int32)) % (7 : Int32))), .unset, .unset, .unset] [])) tgt → Steps p.tables e below (s₁.setTop (entryFrame m #[(.int x0), (.int x1)] maxLocals)) tgt := by
    intro tgt kgo
    refine pre0 _ ?_
    refine XS.iloadN X0.here hx rfl (hb hby at_0) rfl ?_
    show Steps p.tables e below (s₁.setTop (mkF m 1 #[.val (.int x0), .val (.int x1), .unset, .unset, .unset, .unset] [(.int x0)])) _
    refine X0.ldcI hx hown (mvT hZ (ow0 hw)) rfl (hb hby at_1) ?_
    show Steps p.tables e below (s₁.setTop (mkF m 3 #[.val (.int x0), .val (.int x1), .unset, .unset, .unset, .unset] [(.int (2147483647 : Int32)), (.int x0)])) _
    refine XS.iand X0.here hx rfl (hb hby at_3) rfl ?_
    show Steps p.tables e below (s₁.setTop (mkF m 4 #[.val (.int x0), .val (.int x1), .unset, .unset, .unset, .unset] [(.int (x0 &&& (2147483647 : Int32)))])) _
    refine XS.bipush X0.here hx rfl (hb hby at_4) ?_
    show Steps p.tables e below (s₁.setTop (mkF m 6 #[.val (.int x0), .val (.int x1), .unset, .unset, .unset, .unset] [(.int (7 : Int32)), (.int (x0 &&& (2147483647 : Int32)))])) _
    refine iremM (g := (mkF m 6 #[.val (.int x0), .val (.int x1), .unset, .unset, .unset, .unset] [(.int (7 : Int32)), (.int (x0 &&& (2147483647 : Int32)))])) X0 hx rfl (hb hby at_6) rfl (by decide) ?_
    show Steps p.tables e below (s₁.setTop (mkF m 7 #[.val (.int x0), .val (.int x1), .unset, .unset, .unset, .unset] [(.int ((x0 &&& (2147483647 : Int32)) % (7 : Int32)))])) _
    refine XS.istoreN X0.here hx rfl (hb hby at_7) rfl (l' := #[.val (.int x0), .val (.int x1), .val (.int ((x0 &&& (2147483647 : Int32)) % (7 : Int32))), .unset, .unset, .unset]) rfl ?_
    show Steps p.tables e below (s₁.setTop (mkF m 8 #[.val (.int x0), .val (.int x1), .val (.int ((x0 &&& (2147483647 : Int32)) % (7 : Int32))), .unset, .unset, .unset] [])) _
    exact kgo
  obtain ⟨i, hi⟩ : ∃ z, z = ((x0 &&& (2147483647 : Int32)) % (7 : Int32)) := ⟨_, rfl⟩
  have pre2 : ∀ tgt, Steps p.tables e below (s₁.setTop (mkF m 8 #[.val (.int x0), .val (.int x1), .val (.int i), .unset, .unset, .unset] [])) tgt → Steps p.tables e below (s₁.setTop (entryFrame m #[(.int x0), (.int x1)] maxLocals)) tgt := by
    rw [hi]; exact pre1
  have pre3 : ∀ tgt, Steps p.tables e below (s₁.setTop (mkF m 11 #[.val (.int x0), .val (.int x1), .val (.int i), .unset, .unset, .unset] [(.int (x1 &&& (1 : Int32)))])) tgt → Steps p.tables e below (s₁.setTop (entryFrame m #[(.int x0), (.int x1)] maxLocals)) tgt := by
    intro tgt kgo
    refine pre2 _ ?_
    refine XS.iloadN X0.here hx rfl (hb hby at_8) rfl ?_
    show Steps p.tables e below (s₁.setTop (mkF m 9 #[.val (.int x0), .val (.int x1), .val (.int i), .unset, .unset, .unset] [(.int x1)])) _
    refine XS.iconst X0.here hx rfl (hb hby at_9) ?_
    show Steps p.tables e below (s₁.setTop (mkF m 10 #[.val (.int x0), .val (.int x1), .val (.int i), .unset, .unset, .unset] [(.int (1 : Int32)), (.int x1)])) _
    refine XS.iand X0.here hx rfl (hb hby at_10) rfl ?_
    show Steps p.tables e below (s₁.setTop (mkF m 11 #[.val (.int x0), .val (.int x1), .val (.int i), .unset, .unset, .unset] [(.int (x1 &&& (1 : Int32)))])) _
    exact kgo
  obtain ⟨T4, lo4, z, X4, e4, N4, hz, pre4⟩ : ∃ (T' : State) (lo4 : List Loc) (z : Int32), Stand p l e room_1 s m #[(.int x0), (.int x1)] below meth c T' lo4 0 0 ∧ T'.heap = h0 ∧ Fr n0 lo4 ∧ z = (if (x1 &&& (1 : Int32)) = (0 : Int32) then (0 : Int32) else (1 : Int32)) ∧ ∀ tgt, Steps p.tables e below (T'.setTop (mkF m 19 #[.val (.int x0), .val (.int x1), .val (.int i), .unset, .unset, .unset] [(.int z)])) tgt → Steps p.tables e below (s₁.setTop (entryFrame m #[(.int x0), (.int x1)] maxLocals)) tgt := by
    by_cases hc11_5 : (x1 &&& (1 : Int32)) = (0 : Int32)
    · have pre6 : ∀ tgt, Steps p.tables e below (s₁.setTop (mkF m 19 #[.val (.int x0), .val (.int x1), .val (.int i), .unset, .unset, .unset] [(.int (0 : Int32))])) tgt → Steps p.tables e below (s₁.setTop (entryFrame m #[(.int x0), (.int x1)] maxLocals)) tgt := by
        intro tgt kgo
        refine pre3 _ ?_
        refine XS.ifYes X0.here hx rfl (pc0 := 11) (pc' := 18) rfl (hb hby at_11) rfl ((if0 _ _).trans (teq hc11_5).1) (by decide) (by decide) ?_
        show Steps p.tables e below (s₁.setTop (mkF m 18 #[.val (.int x0), .val (.int x1), .val (.int i), .unset, .unset, .unset] [])) _
        refine XS.iconst X0.here hx rfl (hb hby at_18) ?_
        show Steps p.tables e below (s₁.setTop (mkF m 19 #[.val (.int x0), .val (.int x1), .val (.int i), .unset, .unset, .unset] [(.int (0 : Int32))])) _
        exact kgo
      exact ⟨s₁, _, (0 : Int32), X0, e0, N0, (by simp only [if_pos hc11_5]), pre6⟩
    · have pre7 : ∀ tgt, Steps p.tables e below (s₁.setTop (mkF m 19 #[.val (.int x0), .val (.int x1), .val (.int i), .unset, .unset, .unset] [(.int (1 : Int32))])) tgt → Steps p.tables e below (s₁.setTop (entryFrame m #[(.int x0), (.int x1)] maxLocals)) tgt := by
        intro tgt kgo
        refine pre3 _ ?_
        refine XS.ifNo X0.here hx rfl (hb hby at_11) rfl ((if0 _ _).trans (feq hc11_5).1) ?_
        show Steps p.tables e below (s₁.setTop (mkF m 14 #[.val (.int x0), .val (.int x1), .val (.int i), .unset, .unset, .unset] [])) _
        refine XS.iconst X0.here hx rfl (hb hby at_14) ?_
        show Steps p.tables e below (s₁.setTop (mkF m 15 #[.val (.int x0), .val (.int x1), .val (.int i), .unset, .unset, .unset] [(.int (1 : Int32))])) _
        refine XS.goto X0.here hx rfl (pc0 := 15) (pc' := 19) rfl (hb hby at_15) (by decide) (by decide) ?_
        show Steps p.tables e below (s₁.setTop (mkF m 19 #[.val (.int x0), .val (.int x1), .val (.int i), .unset, .unset, .unset] [(.int (1 : Int32))])) _
        exact kgo
      exact ⟨s₁, _, (1 : Int32), X0, e0, N0, (by simp only [if_neg hc11_5]), pre7⟩
  obtain ⟨_, _, ⟨T8, L8, k8, n8⟩, -, X8, ⟨Lc8, hQ8, l8, y8, z8⟩, st8⟩ := Jvm.LawKit.callS X4 hx (y := (⟨"com/example/tx_at_boundaries/txatboundaries/boundary/PropagationDecidePinLaw", "pick", "(I)Lcom/example/tx_at_boundaries/txatboundaries/boundary/Propagation;"⟩ : MethodName)) hown (mvT hZ (ow1 hw)) (mvT hZ (ow2 hw)) (mvT hZ (ow3 hw)) (mvT hZ (ow4 hw)) (by decide) (backOf (W := 0) (rmpick l Z a0 hw [] i w_REQUIRED w_SUPPORTS w_MANDATORY w_REQUIRES_NEW w_NOT_SUPPORTED w_NEVER w_NESTED h0 n0 O0 S_REQUIRED S_SUPPORTS S_MANDATORY S_REQUIRES_NEW S_NOT_SUPPORTED S_NEVER S_NESTED) hZ (ow4 hw) (ow3 hw) (by decide) (by decide)) (g := (mkF m 21 #[.val (.int x0), .val (.int x1), .val (.int i), .val (.int z), .unset, .unset] [(.int i)])) rfl (by rw [hml]; rfl) (argsL := [(.int i)]) (rest := []) (lenOf pd0 rfl) rfl (by show 2 * 0 + _ ≤ _; exact Nat.le_of_eq rfl) (hb hby at_21) (fun _ _ => ⟨rfl, e4, (by decide : 0 + 0 ≤ _), (by decide : 0 + 0 ≤ _)⟩)
  dsimp only [Pt.U, Pt.locs, Pt.cells, Pt.slots] at X8 l8 y8 z8 st8 hQ8
  subst l8 y8 z8
  obtain ⟨rfl, Nq8, eq8⟩ := hQ8
  have N9 := Fr.app N4 Nq8
  obtain ⟨cq10, kq10, q10a, q10b, q10c⟩ := isOf hZ eq8 ((own_pkE i E_REQUIRED E_SUPPORTS E_MANDATORY E_REQUIRES_NEW E_NOT_SUPPORTED E_NEVER E_NESTED).ext O0.2)
  obtain ⟨_, _, ⟨T10, L10, k10, n10⟩, -, X10, ⟨Lc10, hQ10, l10, y10, z10⟩, st10⟩ := X8.virtualBack hx (y := (⟨"com/example/tx_at_boundaries/txatboundaries/boundary/Propagation", "decide", "(Z)Lcom/example/tx_at_boundaries/txatboundaries/boundary/Propagation$Action;"⟩ : MethodName)) (z := (⟨"com/example/tx_at_boundaries/txatboundaries/boundary/Propagation", "decide", "(Z)Lcom/example/tx_at_boundaries/txatboundaries/boundary/Propagation$Action;"⟩ : MethodName)) hown (mvT hZ (ow8 hw)) (mvT hZ (ow9 hw)) (notFace_of_selects (args := #[]) (mvT hZ (ow11 hw))) (mvT hZ (ow11 hw)) (mvT hZ (ow10 hw)) (by decide) (backOf (W := 0) (rmdec l Z a0 hw [] (pk i w_REQUIRED w_SUPPORTS w_MANDATORY w_REQUIRES_NEW w_NOT_SUPPORTED w_NEVER w_NESTED) z (pk i w_JOIN w_JOIN w_JOIN w_SUSPEND_AND_START w_SUSPEND_AND_RUN_WITHOUT w_REFUSE_RUNNING w_NEST) (pk i w_START w_RUN_WITHOUT w_REFUSE_NONE_RUNNING w_START w_RUN_WITHOUT w_RUN_WITHOUT w_START) h0 n0 O0 ((own_pkr i w_JOIN w_JOIN w_JOIN w_SUSPEND_AND_START w_SUSPEND_AND_RUN_WITHOUT w_REFUSE_RUNNING w_NEST ▸ own_pkF i F_REQUIRED_whenRunning F_SUPPORTS_whenRunning F_MANDATORY_whenRunning F_REQUIRES_NEW_whenRunning F_NOT_SUPPORTED_whenRunning F_NEVER_whenRunning F_NESTED_whenRunning).ext O0.2) ((own_pkr i w_START w_RUN_WITHOUT w_REFUSE_NONE_RUNNING w_START w_RUN_WITHOUT w_RUN_WITHOUT w_START ▸ own_pkF i F_REQUIRED_whenNoneRunning F_SUPPORTS_whenNoneRunning F_MANDATORY_whenNoneRunning F_REQUIRES_NEW_whenNoneRunning F_NOT_SUPPORTED_whenNoneRunning F_NEVER_whenNoneRunning F_NESTED_whenNoneRunning).ext O0.2)) hZ (ow12 hw) (ow6 hw) (by decide) (by decide)) q10a q10c (g := (mkF m 29 #[.val (.int x0), .val (.int x1), .val (.int i), .val (.int z), .val (.ref (pk i w_REQUIRED w_SUPPORTS w_MANDATORY w_REQUIRES_NEW w_NOT_SUPPORTED w_NEVER w_NESTED)), .unset] [(.int z), (.ref (pk i w_REQUIRED w_SUPPORTS w_MANDATORY w_REQUIRES_NEW w_NOT_SUPPORTED w_NEVER w_NESTED))])) rfl (by rw [hml]; rfl) (Steps.refl _) (argsL := [(.int z)]) (rest := []) (lenOf pd1 rfl) rfl (by show 2 * 0 + _ ≤ _; exact Nat.le_of_eq rfl) (hb hby at_29) (fun _ _ => ⟨rfl, eq8, (by decide : 0 + 0 ≤ _), (by decide : 0 + 0 ≤ _)⟩)
  dsimp only [Pt.U, Pt.locs, Pt.cells, Pt.slots] at X10 l10 y10 z10 st10 hQ10
  subst l10 y10 z10
  obtain ⟨rfl, Nq10, eq10⟩ := hQ10
  have N11 := Fr.app N9 Nq10
  obtain ⟨_, _, ⟨T12, L12, k12, n12⟩, -, X12, ⟨Lc12, hQ12, l12, y12, z12⟩, st12⟩ := Jvm.LawKit.callS X10 hx (y := (⟨"com/example/tx_at_boundaries/txatboundaries/boundary/PropagationDecidePinLaw", "expected", "(IZ)Lcom/example/tx_at_boundaries/txatboundaries/boundary/Propagation$Action;"⟩ : MethodName)) hown (mvT hZ (ow17 hw)) (mvT hZ (ow18 hw)) (mvT hZ (ow3 hw)) (mvT hZ (ow19 hw)) (by decide) (backOf (W := 1) (rmexp l Z a0 hw [] i z w_JOIN w_SUSPEND_AND_START w_SUSPEND_AND_RUN_WITHOUT w_REFUSE_RUNNING w_NEST w_START w_REFUSE_NONE_RUNNING w_RUN_WITHOUT h0 n0 O0 S_JOIN S_SUSPEND_AND_START S_SUSPEND_AND_RUN_WITHOUT S_REFUSE_RUNNING S_NEST S_START S_REFUSE_NONE_RUNNING S_RUN_WITHOUT) hZ (ow19 hw) (ow3 hw) (by decide) (by decide)) (g := (mkF m 38 #[.val (.int x0), .val (.int x1), .val (.int i), .val (.int z), .val (.ref (pk i w_REQUIRED w_SUPPORTS w_MANDATORY w_REQUIRES_NEW w_NOT_SUPPORTED w_NEVER w_NESTED)), .val (.ref (dc z (pk i w_JOIN w_JOIN w_JOIN w_SUSPEND_AND_START w_SUSPEND_AND_RUN_WITHOUT w_REFUSE_RUNNING w_NEST) (pk i w_START w_RUN_WITHOUT w_REFUSE_NONE_RUNNING w_START w_RUN_WITHOUT w_RUN_WITHOUT w_START)))] [(.int z), (.int i), (.ref (dc z (pk i w_JOIN w_JOIN w_JOIN w_SUSPEND_AND_START w_SUSPEND_AND_RUN_WITHOUT w_REFUSE_RUNNING w_NEST) (pk i w_START w_RUN_WITHOUT w_REFUSE_NONE_RUNNING w_START w_RUN_WITHOUT w_RUN_WITHOUT w_START)))])) rfl (by rw [hml]; rfl) (argsL := [(.int i), (.int z)]) (rest := [(.ref (dc z (pk i w_JOIN w_JOIN w_JOIN w_SUSPEND_AND_START w_SUSPEND_AND_RUN_WITHOUT w_REFUSE_RUNNING w_NEST) (pk i w_START w_RUN_WITHOUT w_REFUSE_NONE_RUNNING w_START w_RUN_WITHOUT w_RUN_WITHOUT w_START)))]) (lenOf pd2 rfl) rfl (by show 2 * 0 + _ ≤ _; exact Nat.le_of_eq rfl) (hb hby at_38) (fun _ _ => ⟨rfl, eq10, (by decide : 0 + 0 ≤ _), (by decide : 0 + 0 ≤ _)⟩)
  dsimp only [Pt.U, Pt.locs, Pt.cells, Pt.slots] at X12 l12 y12 z12 st12 hQ12
  subst l12 y12 z12
  obtain ⟨rfl, Nq12, eq12⟩ := hQ12
  have N13 := Fr.app N11 Nq12
  obtain ⟨fs, hretL, hrun, hended, hW, hsame⟩ := X12.leave (v := some (.int (1 : Int32))) (fun h => by rw [Bd.returns] at h; cases h)
  refine ⟨_, _, pre4 _ ?_, hrun, hended, _, _, rfl, ?_, ⟨_, rfl⟩, hW, hsame.mono (by decide) (by decide)⟩
  · refine XS.istoreN X4.here hx rfl (hb hby at_19) rfl (l' := #[.val (.int x0), .val (.int x1), .val (.int i), .val (.int z), .unset, .unset]) rfl ?_
    show Steps p.tables e below (T4.setTop (mkF m 20 #[.val (.int x0), .val (.int x1), .val (.int i), .val (.int z), .unset, .unset] [])) _
    refine XS.iloadN X4.here hx rfl (hb hby at_20) rfl ?_
    show Steps p.tables e below (T4.setTop (mkF m 21 #[.val (.int x0), .val (.int x1), .val (.int i), .val (.int z), .unset, .unset] [(.int i)])) _
    refine st8 _ ?_
    show Steps p.tables e below (T8.setTop (mkF m 24 #[.val (.int x0), .val (.int x1), .val (.int i), .val (.int z), .unset, .unset] [(.ref (pk i w_REQUIRED w_SUPPORTS w_MANDATORY w_REQUIRES_NEW w_NOT_SUPPORTED w_NEVER w_NESTED))])) _
    refine XS.astore X8.here hx rfl (hb hby at_24) rfl rfl (l' := #[.val (.int x0), .val (.int x1), .val (.int i), .val (.int z), .val (.ref (pk i w_REQUIRED w_SUPPORTS w_MANDATORY w_REQUIRES_NEW w_NOT_SUPPORTED w_NEVER w_NESTED)), .unset]) rfl ?_
    show Steps p.tables e below (T8.setTop (mkF m 26 #[.val (.int x0), .val (.int x1), .val (.int i), .val (.int z), .val (.ref (pk i w_REQUIRED w_SUPPORTS w_MANDATORY w_REQUIRES_NEW w_NOT_SUPPORTED w_NEVER w_NESTED)), .unset] [])) _
    refine XS.aload X8.here hx rfl (hb hby at_26) rfl rfl ?_
    show Steps p.tables e below (T8.setTop (mkF m 28 #[.val (.int x0), .val (.int x1), .val (.int i), .val (.int z), .val (.ref (pk i w_REQUIRED w_SUPPORTS w_MANDATORY w_REQUIRES_NEW w_NOT_SUPPORTED w_NEVER w_NESTED)), .unset] [(.ref (pk i w_REQUIRED w_SUPPORTS w_MANDATORY w_REQUIRES_NEW w_NOT_SUPPORTED w_NEVER w_NESTED))])) _
    refine XS.iloadN X8.here hx rfl (hb hby at_28) rfl ?_
    show Steps p.tables e below (T8.setTop (mkF m 29 #[.val (.int x0), .val (.int x1), .val (.int i), .val (.int z), .val (.ref (pk i w_REQUIRED w_SUPPORTS w_MANDATORY w_REQUIRES_NEW w_NOT_SUPPORTED w_NEVER w_NESTED)), .unset] [(.int z), (.ref (pk i w_REQUIRED w_SUPPORTS w_MANDATORY w_REQUIRES_NEW w_NOT_SUPPORTED w_NEVER w_NESTED))])) _
    refine st10.trans ?_
    show Steps p.tables e below (T10.setTop (mkF m 32 #[.val (.int x0), .val (.int x1), .val (.int i), .val (.int z), .val (.ref (pk i w_REQUIRED w_SUPPORTS w_MANDATORY w_REQUIRES_NEW w_NOT_SUPPORTED w_NEVER w_NESTED)), .unset] [(.ref (dc z (pk i w_JOIN w_JOIN w_JOIN w_SUSPEND_AND_START w_SUSPEND_AND_RUN_WITHOUT w_REFUSE_RUNNING w_NEST) (pk i w_START w_RUN_WITHOUT w_REFUSE_NONE_RUNNING w_START w_RUN_WITHOUT w_RUN_WITHOUT w_START)))])) _
    refine XS.astore X10.here hx rfl (hb hby at_32) rfl rfl (l' := #[.val (.int x0), .val (.int x1), .val (.int i), .val (.int z), .val (.ref (pk i w_REQUIRED w_SUPPORTS w_MANDATORY w_REQUIRES_NEW w_NOT_SUPPORTED w_NEVER w_NESTED)), .val (.ref (dc z (pk i w_JOIN w_JOIN w_JOIN w_SUSPEND_AND_START w_SUSPEND_AND_RUN_WITHOUT w_REFUSE_RUNNING w_NEST) (pk i w_START w_RUN_WITHOUT w_REFUSE_NONE_RUNNING w_START w_RUN_WITHOUT w_RUN_WITHOUT w_START)))]) rfl ?_
    show Steps p.tables e below (T10.setTop (mkF m 34 #[.val (.int x0), .val (.int x1), .val (.int i), .val (.int z), .val (.ref (pk i w_REQUIRED w_SUPPORTS w_MANDATORY w_REQUIRES_NEW w_NOT_SUPPORTED w_NEVER w_NESTED)), .val (.ref (dc z (pk i w_JOIN w_JOIN w_JOIN w_SUSPEND_AND_START w_SUSPEND_AND_RUN_WITHOUT w_REFUSE_RUNNING w_NEST) (pk i w_START w_RUN_WITHOUT w_REFUSE_NONE_RUNNING w_START w_RUN_WITHOUT w_RUN_WITHOUT w_START)))] [])) _
    refine XS.aload X10.here hx rfl (hb hby at_34) rfl rfl ?_
    show Steps p.tables e below (T10.setTop (mkF m 36 #[.val (.int x0), .val (.int x1), .val (.int i), .val (.int z), .val (.ref (pk i w_REQUIRED w_SUPPORTS w_MANDATORY w_REQUIRES_NEW w_NOT_SUPPORTED w_NEVER w_NESTED)), .val (.ref (dc z (pk i w_JOIN w_JOIN w_JOIN w_SUSPEND_AND_START w_SUSPEND_AND_RUN_WITHOUT w_REFUSE_RUNNING w_NEST) (pk i w_START w_RUN_WITHOUT w_REFUSE_NONE_RUNNING w_START w_RUN_WITHOUT w_RUN_WITHOUT w_START)))] [(.ref (dc z (pk i w_JOIN w_JOIN w_JOIN w_SUSPEND_AND_START w_SUSPEND_AND_RUN_WITHOUT w_REFUSE_RUNNING w_NEST) (pk i w_START w_RUN_WITHOUT w_REFUSE_NONE_RUNNING w_START w_RUN_WITHOUT w_RUN_WITHOUT w_START)))])) _
    refine XS.iloadN X10.here hx rfl (hb hby at_36) rfl ?_
    show Steps p.tables e below (T10.setTop (mkF m 37 #[.val (.int x0), .val (.int x1), .val (.int i), .val (.int z), .val (.ref (pk i w_REQUIRED w_SUPPORTS w_MANDATORY w_REQUIRES_NEW w_NOT_SUPPORTED w_NEVER w_NESTED)), .val (.ref (dc z (pk i w_JOIN w_JOIN w_JOIN w_SUSPEND_AND_START w_SUSPEND_AND_RUN_WITHOUT w_REFUSE_RUNNING w_NEST) (pk i w_START w_RUN_WITHOUT w_REFUSE_NONE_RUNNING w_START w_RUN_WITHOUT w_RUN_WITHOUT w_START)))] [(.int i), (.ref (dc z (pk i w_JOIN w_JOIN w_JOIN w_SUSPEND_AND_START w_SUSPEND_AND_RUN_WITHOUT w_REFUSE_RUNNING w_NEST) (pk i w_START w_RUN_WITHOUT w_REFUSE_NONE_RUNNING w_START w_RUN_WITHOUT w_RUN_WITHOUT w_START)))])) _
    refine XS.iloadN X10.here hx rfl (hb hby at_37) rfl ?_
    show Steps p.tables e below (T10.setTop (mkF m 38 #[.val (.int x0), .val (.int x1), .val (.int i), .val (.int z), .val (.ref (pk i w_REQUIRED w_SUPPORTS w_MANDATORY w_REQUIRES_NEW w_NOT_SUPPORTED w_NEVER w_NESTED)), .val (.ref (dc z (pk i w_JOIN w_JOIN w_JOIN w_SUSPEND_AND_START w_SUSPEND_AND_RUN_WITHOUT w_REFUSE_RUNNING w_NEST) (pk i w_START w_RUN_WITHOUT w_REFUSE_NONE_RUNNING w_START w_RUN_WITHOUT w_RUN_WITHOUT w_START)))] [(.int z), (.int i), (.ref (dc z (pk i w_JOIN w_JOIN w_JOIN w_SUSPEND_AND_START w_SUSPEND_AND_RUN_WITHOUT w_REFUSE_RUNNING w_NEST) (pk i w_START w_RUN_WITHOUT w_REFUSE_NONE_RUNNING w_START w_RUN_WITHOUT w_RUN_WITHOUT w_START)))])) _
    refine st12 _ ?_
    show Steps p.tables e below (T12.setTop (mkF m 41 #[.val (.int x0), .val (.int x1), .val (.int i), .val (.int z), .val (.ref (pk i w_REQUIRED w_SUPPORTS w_MANDATORY w_REQUIRES_NEW w_NOT_SUPPORTED w_NEVER w_NESTED)), .val (.ref (dc z (pk i w_JOIN w_JOIN w_JOIN w_SUSPEND_AND_START w_SUSPEND_AND_RUN_WITHOUT w_REFUSE_RUNNING w_NEST) (pk i w_START w_RUN_WITHOUT w_REFUSE_NONE_RUNNING w_START w_RUN_WITHOUT w_RUN_WITHOUT w_START)))] [(.ref (ex i z w_JOIN w_SUSPEND_AND_START w_SUSPEND_AND_RUN_WITHOUT w_REFUSE_RUNNING w_NEST w_START w_REFUSE_NONE_RUNNING w_RUN_WITHOUT)), (.ref (dc z (pk i w_JOIN w_JOIN w_JOIN w_SUSPEND_AND_START w_SUSPEND_AND_RUN_WITHOUT w_REFUSE_RUNNING w_NEST) (pk i w_START w_RUN_WITHOUT w_REFUSE_NONE_RUNNING w_START w_RUN_WITHOUT w_RUN_WITHOUT w_START)))])) _
    refine Jvm.RoadKit.acmp (g := (mkF m 41 #[.val (.int x0), .val (.int x1), .val (.int i), .val (.int z), .val (.ref (pk i w_REQUIRED w_SUPPORTS w_MANDATORY w_REQUIRES_NEW w_NOT_SUPPORTED w_NEVER w_NESTED)), .val (.ref (dc z (pk i w_JOIN w_JOIN w_JOIN w_SUSPEND_AND_START w_SUSPEND_AND_RUN_WITHOUT w_REFUSE_RUNNING w_NEST) (pk i w_START w_RUN_WITHOUT w_REFUSE_NONE_RUNNING w_START w_RUN_WITHOUT w_RUN_WITHOUT w_START)))] [(.ref (ex i z w_JOIN w_SUSPEND_AND_START w_SUSPEND_AND_RUN_WITHOUT w_REFUSE_RUNNING w_NEST w_START w_REFUSE_NONE_RUNNING w_RUN_WITHOUT)), (.ref (dc z (pk i w_JOIN w_JOIN w_JOIN w_SUSPEND_AND_START w_SUSPEND_AND_RUN_WITHOUT w_REFUSE_RUNNING w_NEST) (pk i w_START w_RUN_WITHOUT w_REFUSE_NONE_RUNNING w_START w_RUN_WITHOUT w_RUN_WITHOUT w_START)))])) X12 hx rfl rfl rfl (pc0 := 41) (pc' := 44) (same := true) rfl (hb hby at_41) rfl (decide_eq_true (congrArg Value.ref (own_law hi))) (by decide) (by decide) ?_
    show Steps p.tables e below (T12.setTop (mkF m 44 #[.val (.int x0), .val (.int x1), .val (.int i), .val (.int z), .val (.ref (pk i w_REQUIRED w_SUPPORTS w_MANDATORY w_REQUIRES_NEW w_NOT_SUPPORTED w_NEVER w_NESTED)), .val (.ref (dc z (pk i w_JOIN w_JOIN w_JOIN w_SUSPEND_AND_START w_SUSPEND_AND_RUN_WITHOUT w_REFUSE_RUNNING w_NEST) (pk i w_START w_RUN_WITHOUT w_REFUSE_NONE_RUNNING w_START w_RUN_WITHOUT w_RUN_WITHOUT w_START)))] [])) _
    refine XS.iconst X12.here hx rfl (hb hby at_44) ?_
    show Steps p.tables e below (T12.setTop (mkF m 45 #[.val (.int x0), .val (.int x1), .val (.int i), .val (.int z), .val (.ref (pk i w_REQUIRED w_SUPPORTS w_MANDATORY w_REQUIRES_NEW w_NOT_SUPPORTED w_NEVER w_NESTED)), .val (.ref (dc z (pk i w_JOIN w_JOIN w_JOIN w_SUSPEND_AND_START w_SUSPEND_AND_RUN_WITHOUT w_REFUSE_RUNNING w_NEST) (pk i w_START w_RUN_WITHOUT w_REFUSE_NONE_RUNNING w_START w_RUN_WITHOUT w_RUN_WITHOUT w_START)))] [(.int (1 : Int32))])) _
    refine XS.goto X12.here hx rfl (pc0 := 45) (pc' := 49) rfl (hb hby at_45) (by decide) (by decide) ?_
    show Steps p.tables e below (T12.setTop (mkF m 49 #[.val (.int x0), .val (.int x1), .val (.int i), .val (.int z), .val (.ref (pk i w_REQUIRED w_SUPPORTS w_MANDATORY w_REQUIRES_NEW w_NOT_SUPPORTED w_NEVER w_NESTED)), .val (.ref (dc z (pk i w_JOIN w_JOIN w_JOIN w_SUSPEND_AND_START w_SUSPEND_AND_RUN_WITHOUT w_REFUSE_RUNNING w_NEST) (pk i w_START w_RUN_WITHOUT w_REFUSE_NONE_RUNNING w_START w_RUN_WITHOUT w_RUN_WITHOUT w_START)))] [(.int (1 : Int32))])) _
    exact retOut X12 hx Bd.returns rfl (Or.inl ⟨rfl, Or.inr (Or.inl rfl), _, rfl⟩) (hb hby at_49) hretL
  · show Q_rm0 Z x0 x1 w_REQUIRED w_JOIN w_REQUIRES_NEW w_SUSPEND_AND_START w_SUPPORTS w_RUN_WITHOUT w_NOT_SUPPORTED w_SUSPEND_AND_RUN_WITHOUT w_NESTED w_START w_NEVER w_REFUSE_RUNNING w_MANDATORY w_REFUSE_NONE_RUNNING w_NEST h0 n0 _ T12.heap _
    rw [eq12]
    exact ⟨rfl, N13⟩
set_option maxRecDepth 65536 in
set_option maxHeartbeats 40000000 in
theorem comes_1 {Post : Tables → Env → Array Value → State → Outcome → State → Prop} (hpost : ∀ tb e args s v u, (limb_1_1.after args s (.returned v) u = true ∧ limb_1_2.after args s (.returned v) u = true ∧ True) → FrameEnd s (.returned v) u (Jvm.fieldLocs frame_1_writes args s ++ Jvm.arrayLocs frame_1_arrays args s ++ Jvm.staticLocs frame_1_statics s) 0 0 → Post tb e args s (.returned v) u) :
    ArmFor flags0 classFile x code maxLocals ret World_1 tables_1 room_1 Calls_1 rest_1 Pre_1 Post := by
  intro l hfl _ _ p e ha hc hk s m args below hf hA hF happ hP
  obtain ⟨hcalls, hrest, hpre⟩ := hP
  obtain ⟨-, -, -, hnamed, -, -, -, hat⟩ := (Spec.applies_iff hf).mp happ
  obtain ⟨hg, hn⟩ := and_e (Cond.before_iff.mp (show (Jvm.Cond.and given_1 narrow_1).before args s = true from hpre))
  obtain ⟨u1, v1⟩ := and_e hg
  obtain ⟨u2, v2⟩ := and_e v1
  obtain ⟨w0, w1, rfl⟩ : ∃ w0 w1 : Value, args = #[w0, w1] := by
    have hs : args.size = 2 := by simpa [Cond.value, given_1] using u1
    obtain ⟨L⟩ := args
    match L, hs with
    | [w0, w1], _ => exact ⟨w0, w1, rfl⟩
  have hw := fun d (hd : d ∈ tables_1) => atoms_spec (ws := Jvm.Cond.code x code maxLocals ret :: tables_1) hat d (List.mem_cons_of_mem _ hd)
  have hfit : Fit s := fun {y c} hc i hi => by
    obtain ⟨ha, rfl⟩ := Array.getElem?_eq_some_iff.mp hc
    have q := List.all_eq_true.mp ((Array.all_eq_true_iff_forall_mem.mp hF) _ (Array.getElem_mem ha)) i (List.mem_range.mpr hi)
    simpa [Array.getElem?_eq_getElem hi] using q
  obtain ⟨i0, ei0⟩ := is_v u2
  obtain rfl : w0 = (.int i0) := Option.some.inj ei0
  obtain ⟨i1, ei1⟩ := is_v v2
  obtain rfl : w1 = (.int i1) := Option.some.inj ei1
  obtain ⟨nu1, nv1⟩ := and_e hn
  obtain ⟨nu2, nv2⟩ := and_e nv1
  obtain ⟨nu3, nv3⟩ := and_e nv2
  obtain ⟨nu4, nv4⟩ := and_e nv3
  obtain ⟨nu5, nv5⟩ := and_e nv4
  obtain ⟨nu6, nv6⟩ := and_e nv5
  obtain ⟨nu7, nv7⟩ := and_e nv6
  obtain ⟨nu8, nv8⟩ := and_e nv7
  obtain ⟨nu9, nv9⟩ := and_e nv8
  obtain ⟨nu10, nv10⟩ := and_e nv9
  obtain ⟨nu11, nv11⟩ := and_e nv10
  obtain ⟨nu12, nv12⟩ := and_e nv11
  obtain ⟨nu13, nv13⟩ := and_e nv12
  obtain ⟨nu14, nv14⟩ := and_e nv13
  obtain ⟨nu15, nv15⟩ := and_e nv14
  obtain ⟨nu16, nv16⟩ := and_e nv15
  obtain ⟨nu17, nv17⟩ := and_e nv16
  obtain ⟨nu18, nv18⟩ := and_e nv17
  obtain ⟨nu19, nv19⟩ := and_e nv18
  obtain ⟨nu20, nv20⟩ := and_e nv19
  obtain ⟨nu21, nv21⟩ := and_e nv20
  obtain ⟨nu22, nv22⟩ := and_e nv21
  obtain ⟨nu23, nv23⟩ := and_e nv22
  obtain ⟨nu24, nv24⟩ := and_e nv23
  obtain ⟨nu25, nv25⟩ := and_e nv24
  obtain ⟨nu26, nv26⟩ := and_e nv25
  obtain ⟨nu27, nv27⟩ := and_e nv26
  obtain ⟨nu28, nv28⟩ := and_e nv27
  obtain ⟨w_REQUIRED, S_REQUIRED, E_REQUIRED, ev_REQUIRED⟩ := own_sta nu1 (ow6 hw) (ow7 hw)
  obtain ⟨w_JOIN, S_JOIN, E_JOIN, ev_JOIN⟩ := own_sta nu2 (ow15 hw) (ow16 hw)
  obtain ⟨w_REQUIRES_NEW, S_REQUIRES_NEW, E_REQUIRES_NEW, ev_REQUIRES_NEW⟩ := own_sta nu4 (ow6 hw) (ow22 hw)
  obtain ⟨w_SUSPEND_AND_START, S_SUSPEND_AND_START, E_SUSPEND_AND_START, ev_SUSPEND_AND_START⟩ := own_sta nu5 (ow15 hw) (ow23 hw)
  obtain ⟨w_SUPPORTS, S_SUPPORTS, E_SUPPORTS, ev_SUPPORTS⟩ := own_sta nu7 (ow6 hw) (ow26 hw)
  obtain ⟨w_RUN_WITHOUT, S_RUN_WITHOUT, E_RUN_WITHOUT, ev_RUN_WITHOUT⟩ := own_sta nu8 (ow15 hw) (ow29 hw)
  obtain ⟨w_NOT_SUPPORTED, S_NOT_SUPPORTED, E_NOT_SUPPORTED, ev_NOT_SUPPORTED⟩ := own_sta nu10 (ow6 hw) (ow32 hw)
  obtain ⟨w_SUSPEND_AND_RUN_WITHOUT, S_SUSPEND_AND_RUN_WITHOUT, E_SUSPEND_AND_RUN_WITHOUT, ev_SUSPEND_AND_RUN_WITHOUT⟩ := own_sta nu12 (ow15 hw) (ow33 hw)
  obtain ⟨w_NESTED, S_NESTED, E_NESTED, ev_NESTED⟩ := own_sta nu14 (ow6 hw) (ow36 hw)
  obtain ⟨w_START, S_START, E_START, ev_START⟩ := own_sta nu15 (ow15 hw) (ow37 hw)
  obtain ⟨w_NEVER, S_NEVER, E_NEVER, ev_NEVER⟩ := own_sta nu18 (ow6 hw) (ow40 hw)
  obtain ⟨w_REFUSE_RUNNING, S_REFUSE_RUNNING, E_REFUSE_RUNNING, ev_REFUSE_RUNNING⟩ := own_sta nu19 (ow15 hw) (ow41 hw)
  obtain ⟨w_MANDATORY, S_MANDATORY, E_MANDATORY, ev_MANDATORY⟩ := own_sta nu23 (ow6 hw) (ow44 hw)
  obtain ⟨w_REFUSE_NONE_RUNNING, S_REFUSE_NONE_RUNNING, E_REFUSE_NONE_RUNNING, ev_REFUSE_NONE_RUNNING⟩ := own_sta nu24 (ow15 hw) (ow45 hw)
  obtain ⟨w_NEST, S_NEST, E_NEST, ev_NEST⟩ := own_sta nu27 (ow15 hw) (ow47 hw)
  have F_REQUIRED_whenRunning := own_freq ev_REQUIRED ev_JOIN nu3
  have F_REQUIRES_NEW_whenRunning := own_freq ev_REQUIRES_NEW ev_SUSPEND_AND_START nu6
  have F_SUPPORTS_whenNoneRunning := own_freq ev_SUPPORTS ev_RUN_WITHOUT nu9
  have F_NOT_SUPPORTED_whenNoneRunning := own_freq ev_NOT_SUPPORTED ev_RUN_WITHOUT nu11
  have F_NOT_SUPPORTED_whenRunning := own_freq ev_NOT_SUPPORTED ev_SUSPEND_AND_RUN_WITHOUT nu13
  have F_NESTED_whenNoneRunning := own_freq ev_NESTED ev_START nu16
  have F_SUPPORTS_whenRunning := own_freq ev_SUPPORTS ev_JOIN nu17
  have F_NEVER_whenRunning := own_freq ev_NEVER ev_REFUSE_RUNNING nu20
  have F_REQUIRED_whenNoneRunning := own_freq ev_REQUIRED ev_START nu21
  have F_NEVER_whenNoneRunning := own_freq ev_NEVER ev_RUN_WITHOUT nu22
  have F_MANDATORY_whenNoneRunning := own_freq ev_MANDATORY ev_REFUSE_NONE_RUNNING nu25
  have F_REQUIRES_NEW_whenNoneRunning := own_freq ev_REQUIRES_NEW ev_START nu26
  have F_NESTED_whenRunning := own_freq ev_NESTED ev_NEST nu28
  have F_MANDATORY_whenRunning := own_freq ev_MANDATORY ev_JOIN nv28
  obtain ⟨n, o, h1, h2, h3, _, L, rfl, ⟨rfl, N⟩, hq⟩ := rm0 l s _ hw tables_1 i0 i1 w_REQUIRED w_JOIN w_REQUIRES_NEW w_SUSPEND_AND_START w_SUPPORTS w_RUN_WITHOUT w_NOT_SUPPORTED w_SUSPEND_AND_RUN_WITHOUT w_NESTED w_START w_NEVER w_REFUSE_RUNNING w_MANDATORY w_REFUSE_NONE_RUNNING w_NEST s.heap s.heap.size (Old.start s) S_REQUIRED E_REQUIRED S_JOIN E_JOIN S_REQUIRES_NEW E_REQUIRES_NEW S_SUSPEND_AND_START E_SUSPEND_AND_START S_SUPPORTS E_SUPPORTS S_RUN_WITHOUT E_RUN_WITHOUT S_NOT_SUPPORTED E_NOT_SUPPORTED S_SUSPEND_AND_RUN_WITHOUT E_SUSPEND_AND_RUN_WITHOUT S_NESTED E_NESTED S_START E_START S_NEVER E_NEVER S_REFUSE_RUNNING E_REFUSE_RUNNING S_MANDATORY E_MANDATORY S_REFUSE_NONE_RUNNING E_REFUSE_NONE_RUNNING S_NEST E_NEST F_REQUIRED_whenRunning F_REQUIRES_NEW_whenRunning F_SUPPORTS_whenNoneRunning F_NOT_SUPPORTED_whenNoneRunning F_NOT_SUPPORTED_whenRunning F_NESTED_whenNoneRunning F_SUPPORTS_whenRunning F_NEVER_whenRunning F_REQUIRED_whenNoneRunning F_NEVER_whenNoneRunning F_MANDATORY_whenNoneRunning F_REQUIRES_NEW_whenNoneRunning F_NESTED_whenRunning F_MANDATORY_whenRunning p e ha hc hk s m _ below hf ((Spec.applies_iff_loose hf).mp happ).1 ⟨rfl, State.Warmed39.refl s, rfl⟩ trivial
  refine ⟨n, _, h1, h2, h3, hpost _ _ _ _ _ _ ⟨Cond.after_iff.mpr rfl, Cond.after_iff.mpr (eq_i res_at (Term.int_eval (1)) rfl), trivial⟩ ⟨hq.1, hq.2.1, (hq.2.2.sift fun y hy => Or.inr (N y hy)).mono (by decide) (by decide)⟩⟩
theorem main_1_1 : Claimed_1_1 := comes_1 fun _ _ _ _ _ _ h hF => ⟨h.1, hF⟩
theorem main_1_2 : Claimed_1_2 := comes_1 fun _ _ _ _ _ _ h hF => ⟨h.2.1, hF⟩
end Jvm.Pilot.@@N@@
namespace Jvm.Pilot.@@N@@
open Jvm Jvm.ClassFile Sem Op Lib Jvm.Free Jvm.Stand Jvm.Pilot.@@N@@.Jvm.D
/-! MADE BY PROGRAM (witnessworld.py) out of the Statement's table words and the real class files: 13 classes; the members and pool entries that the words name. The judged class is class 1, her method 3. -/
namespace start1
open Jvm.ClassFile
def u (s : String) : CpInfo := .utf8 (stringToUtf16 s)
/-- a pool by its gaps: so many unusable entries, then the entry; so many at the end -/
def gap : Nat → List CpInfo → List CpInfo
  | 0, r => r
  | n + 1, r => .unusable :: gap n r
def poolList (es : List (Nat × CpInfo)) (last : Nat) : List CpInfo := es.foldr (fun e r => gap e.1 (e.2 :: r)) (gap last [])
def pool (es : List (Nat × CpInfo)) (last : Nat) : Array CpInfo := ⟨poolList es last⟩
def fileOf (pool : Array CpInfo) (this : Nat) (attrs : Array Attribute := #[]) (ms : Array MethodInfo := #[]) (fl : Nat := 33) (sup : Nat := 0) (ifs : Array Nat := #[]) (fds : Array FieldInfo := #[]) : ClassFile where
  minorVersion := 0
  majorVersion := 65
  constantPool := pool
  accessFlags := fl
  thisClass := this
  superClass := sup
  interfaces := ifs
  fields := fds
  methods := ms
  attributes := attrs
def plain (name : String) (sup : Option ClassId) : Class where
  name := name
  kind := .ordinary
  loader := none
  accessFlags := 33
  super := sup
  interfaces := #[]
  cf := none
  fields := #[]
  methods := #[]
  instanceTypes := #[]
  staticTypes := #[]
  resolved := #[]
  callSites := []
  init := .initialized
  statics := none
  mirror := none

def pool0 : Array CpInfo := pool [(5, u "<init>"), (0, u "()V"), (1, .class_ 10), (1, u "java/lang/Object")] 113

def k0m0 : Method := { name := "<init>", desc := "()V", sig := { parameters := [], returnType := none }, accessFlags := 1, code := none }
/-- java/lang/Object -/
def k0 : Class := { plain "java/lang/Object" none with
  accessFlags := 33
  interfaces := #[]
  cf := some (fileOf pool0 8 #[] #[{ accessFlags := 1, nameIndex := 5, descriptorIndex := 6, attributes := #[] }] 33 0 #[] #[])
  fields := #[]
  methods := #[k0m0]
  instanceTypes := #[]
  staticTypes := #[]
  resolved := Array.replicate 124 none
  statics := none }

def pool1 : Array CpInfo := pool [(2, .class_ 4), (1, u "java/lang/Object"), (0, u "<init>"), (0, u "()V"), (0, .fieldref 8 9), (0, .class_ 10), (0, .nameAndType 11 12), (0, u "com/example/tx_at_boundaries/txatboundaries/boundary/Propagation"), (0, u "REQUIRED"), (0, u "Lcom/example/tx_at_boundaries/txatboundaries/boundary/Propagation;"), (0, .fieldref 8 14), (0, .nameAndType 15 12), (0, u "SUPPORTS"), (0, .fieldref 8 17), (0, .nameAndType 18 12), (0, u "MANDATORY"), (0, .fieldref 8 20), (0, .nameAndType 21 12), (0, u "REQUIRES_NEW"), (0, .fieldref 8 23), (0, .nameAndType 24 12), (0, u "NOT_SUPPORTED"), (0, .fieldref 8 26), (0, .nameAndType 27 12), (0, u "NEVER"), (0, .fieldref 8 29), (0, .nameAndType 30 12), (0, u "NESTED"), (0, .fieldref 32 33), (0, .class_ 34), (0, .nameAndType 35 36), (0, u "com/example/tx_at_boundaries/txatboundaries/boundary/Propagation$Action"), (0, u "JOIN"), (0, u "Lcom/example/tx_at_boundaries/txatboundaries/boundary/Propagation$Action;"), (0, .fieldref 32 38), (0, .nameAndType 39 36), (0, u "SUSPEND_AND_START"), (0, .fieldref 32 41), (0, .nameAndType 42 36), (0, u "SUSPEND_AND_RUN_WITHOUT"), (0, .fieldref 32 44), (0, .nameAndType 45 36), (0, u "REFUSE_RUNNING"), (0, .fieldref 32 47), (0, .nameAndType 48 36), (0, u "NEST"), (0, .fieldref 32 50), (0, .nameAndType 51 36), (0, u "START"), (0, .fieldref 32 53), (0, .nameAndType 54 36), (0, u "REFUSE_NONE_RUNNING"), (0, .fieldref 32 56), (0, .nameAndType 57 36), (0, u "RUN_WITHOUT"), (0, .integer 2147483647), (0, .methodref 60 61), (0, .class_ 62), (0, .nameAndType 63 64), (0, u "com/example/tx_at_boundaries/txatboundaries/boundary/PropagationDecidePinLaw"), (0, u "pick"), (0, u "(I)Lcom/example/tx_at_boundaries/txatboundaries/boundary/Propagation;"), (0, .methodref 8 66), (0, .nameAndType 67 68), (0, u "decide"), (0, u "(Z)Lcom/example/tx_at_boundaries/txatboundaries/boundary/Propagation$Action;"), (0, .methodref 60 70), (0, .nameAndType 71 72), (0, u "expected"), (0, u "(IZ)Lcom/example/tx_at_boundaries/txatboundaries/boundary/Propagation$Action;"), (3, u "law"), (0, u "(II)Z")] 4

def k1m0 : Method := { name := "<init>", desc := "()V", sig := { parameters := [], returnType := none }, accessFlags := 2, code := none }
def k1c1 : Code := { maxStack := 2, maxLocals := 1, code := method_2_code, exceptionTable := #[], attributes := #[] }
def k1m1 : Method := { name := "pick", desc := "(I)Lcom/example/tx_at_boundaries/txatboundaries/boundary/Propagation;", sig := { parameters := [.int], returnType := some (.object "com/example/tx_at_boundaries/txatboundaries/boundary/Propagation") }, accessFlags := 10, code := some k1c1 }
def k1c2 : Code := { maxStack := 2, maxLocals := 2, code := method_3_code, exceptionTable := #[], attributes := #[] }
def k1m2 : Method := { name := "expected", desc := "(IZ)Lcom/example/tx_at_boundaries/txatboundaries/boundary/Propagation$Action;", sig := { parameters := [.int, .boolean], returnType := some (.object "com/example/tx_at_boundaries/txatboundaries/boundary/Propagation$Action") }, accessFlags := 10, code := some k1c2 }
def k1c3 : Code := { maxStack := 3, maxLocals := 6, code := code, exceptionTable := #[], attributes := #[] }
def k1m3 : Method := { name := "law", desc := "(II)Z", sig := { parameters := [.int, .int], returnType := some .boolean }, accessFlags := 9, code := some k1c3 }
/-- com/example/tx_at_boundaries/txatboundaries/boundary/PropagationDecidePinLaw -/
def k1 : Class := { plain "com/example/tx_at_boundaries/txatboundaries/boundary/PropagationDecidePinLaw" (some 0) with
  accessFlags := 49
  interfaces := #[]
  cf := some (fileOf pool1 60 #[] #[{ accessFlags := 2, nameIndex := 5, descriptorIndex := 6, attributes := #[] }, { accessFlags := 10, nameIndex := 63, descriptorIndex := 64, attributes := #[] }, { accessFlags := 10, nameIndex := 71, descriptorIndex := 72, attributes := #[] }, { accessFlags := 9, nameIndex := 76, descriptorIndex := 77, attributes := #[] }] 49 2 #[] #[])
  fields := #[]
  methods := #[k1m0, k1m1, k1m2, k1m3]
  instanceTypes := #[]
  staticTypes := #[]
  resolved := Array.replicate 82 none
  statics := none }

def pool2 : Array CpInfo := pool [(1, .class_ 2), (0, u "java/lang/constant/Constable"), (0, .class_ 4), (0, u "java/lang/Object")] 6

/-- java/lang/constant/Constable -/
def k2 : Class := { plain "java/lang/constant/Constable" (some 0) with
  accessFlags := 1537
  interfaces := #[]
  cf := some (fileOf pool2 1 #[] #[] 1537 3 #[] #[])
  fields := #[]
  methods := #[]
  instanceTypes := #[]
  staticTypes := #[]
  resolved := Array.replicate 11 none
  statics := none }

def pool3 : Array CpInfo := pool [(1, .class_ 2), (0, u "java/lang/Comparable"), (0, .class_ 4), (0, u "java/lang/Object")] 7

/-- java/lang/Comparable -/
def k3 : Class := { plain "java/lang/Comparable" (some 0) with
  accessFlags := 1537
  interfaces := #[]
  cf := some (fileOf pool3 1 #[] #[] 1537 3 #[] #[])
  fields := #[]
  methods := #[]
  instanceTypes := #[]
  staticTypes := #[]
  resolved := Array.replicate 12 none
  statics := none }

def pool4 : Array CpInfo := pool [(1, .class_ 2), (0, u "java/io/Serializable"), (0, .class_ 4), (0, u "java/lang/Object")] 2

/-- java/io/Serializable -/
def k4 : Class := { plain "java/io/Serializable" (some 0) with
  accessFlags := 1537
  interfaces := #[]
  cf := some (fileOf pool4 1 #[] #[] 1537 3 #[] #[])
  fields := #[]
  methods := #[]
  instanceTypes := #[]
  staticTypes := #[]
  resolved := Array.replicate 7 none
  statics := none }

def pool5 : Array CpInfo := pool [(2, .class_ 4), (1, u "java/lang/Enum"), (0, u "name"), (0, u "Ljava/lang/String;"), (2, u "ordinal"), (0, u "I"), (1, .class_ 14), (1, u "java/lang/Object"), (4, u "hash"), (86, .class_ 108), (1, u "java/lang/Enum$EnumDesc"), (2, .class_ 112), (0, u "java/lang/constant/Constable"), (0, .class_ 114), (0, u "java/lang/Comparable"), (0, .class_ 116), (0, u "java/io/Serializable")] 87

/-- java/lang/Enum -/
def k5 : Class := { plain "java/lang/Enum" (some 0) with
  accessFlags := 1057
  interfaces := #[2, 3, 4]
  cf := some (fileOf pool5 2 #[.nestMembers #[106]] #[] 1057 12 #[111, 113, 115] #[{ accessFlags := 18, nameIndex := 5, descriptorIndex := 6, attributes := #[] }, { accessFlags := 18, nameIndex := 9, descriptorIndex := 10, attributes := #[] }, { accessFlags := 2, nameIndex := 19, descriptorIndex := 10, attributes := #[] }])
  fields := #[{ name := "name", type := (.object "java/lang/String"), accessFlags := 18, slot := 0, constantValue := 0 }, { name := "ordinal", type := .int, accessFlags := 18, slot := 1, constantValue := 0 }, { name := "hash", type := .int, accessFlags := 2, slot := 2, constantValue := 0 }]
  methods := #[]
  instanceTypes := #[(.object "java/lang/String"), .int, .int]
  staticTypes := #[]
  resolved := Array.replicate 204 none
  statics := none }

def pool6 : Array CpInfo := pool [(1, .class_ 2), (0, u "com/example/tx_at_boundaries/txatboundaries/boundary/Propagation"), (2, u "REQUIRED"), (0, u "Lcom/example/tx_at_boundaries/txatboundaries/boundary/Propagation;"), (2, u "SUPPORTS"), (2, u "MANDATORY"), (2, u "REQUIRES_NEW"), (2, u "NOT_SUPPORTED"), (2, u "NEVER"), (2, u "NESTED"), (2, u "$VALUES"), (0, u "[Lcom/example/tx_at_boundaries/txatboundaries/boundary/Propagation;"), (6, .class_ 37), (1, u "java/lang/Enum"), (6, .fieldref 1 45), (0, .nameAndType 46 47), (0, u "whenRunning"), (0, u "Lcom/example/tx_at_boundaries/txatboundaries/boundary/Propagation$Action;"), (0, .fieldref 1 49), (0, .nameAndType 50 47), (0, u "whenNoneRunning"), (2, .class_ 55), (1, u "com/example/tx_at_boundaries/txatboundaries/boundary/Propagation$Action"), (42, u "decide"), (0, u "(Z)Lcom/example/tx_at_boundaries/txatboundaries/boundary/Propagation$Action;")] 9

def k6c0 : Code := { maxStack := 1, maxLocals := 2, code := prog_10_method_4_code, exceptionTable := #[], attributes := #[] }
def k6m0 : Method := { name := "decide", desc := "(Z)Lcom/example/tx_at_boundaries/txatboundaries/boundary/Propagation$Action;", sig := { parameters := [.boolean], returnType := some (.object "com/example/tx_at_boundaries/txatboundaries/boundary/Propagation$Action") }, accessFlags := 1, code := some k6c0 }
/-- com/example/tx_at_boundaries/txatboundaries/boundary/Propagation -/
def k6 : Class := { plain "com/example/tx_at_boundaries/txatboundaries/boundary/Propagation" (some 5) with
  accessFlags := 16433
  interfaces := #[]
  cf := some (fileOf pool6 1 #[.nestMembers #[53]] #[{ accessFlags := 1, nameIndex := 98, descriptorIndex := 99, attributes := #[] }] 16433 35 #[] #[{ accessFlags := 16409, nameIndex := 5, descriptorIndex := 6, attributes := #[] }, { accessFlags := 16409, nameIndex := 9, descriptorIndex := 6, attributes := #[] }, { accessFlags := 16409, nameIndex := 12, descriptorIndex := 6, attributes := #[] }, { accessFlags := 16409, nameIndex := 15, descriptorIndex := 6, attributes := #[] }, { accessFlags := 16409, nameIndex := 18, descriptorIndex := 6, attributes := #[] }, { accessFlags := 16409, nameIndex := 21, descriptorIndex := 6, attributes := #[] }, { accessFlags := 16409, nameIndex := 24, descriptorIndex := 6, attributes := #[] }, { accessFlags := 18, nameIndex := 46, descriptorIndex := 47, attributes := #[] }, { accessFlags := 18, nameIndex := 50, descriptorIndex := 47, attributes := #[] }, { accessFlags := 4122, nameIndex := 27, descriptorIndex := 28, attributes := #[] }])
  fields := #[{ name := "REQUIRED", type := (.object "com/example/tx_at_boundaries/txatboundaries/boundary/Propagation"), accessFlags := 16409, slot := 0, constantValue := 0 }, { name := "SUPPORTS", type := (.object "com/example/tx_at_boundaries/txatboundaries/boundary/Propagation"), accessFlags := 16409, slot := 1, constantValue := 0 }, { name := "MANDATORY", type := (.object "com/example/tx_at_boundaries/txatboundaries/boundary/Propagation"), accessFlags := 16409, slot := 2, constantValue := 0 }, { name := "REQUIRES_NEW", type := (.object "com/example/tx_at_boundaries/txatboundaries/boundary/Propagation"), accessFlags := 16409, slot := 3, constantValue := 0 }, { name := "NOT_SUPPORTED", type := (.object "com/example/tx_at_boundaries/txatboundaries/boundary/Propagation"), accessFlags := 16409, slot := 4, constantValue := 0 }, { name := "NEVER", type := (.object "com/example/tx_at_boundaries/txatboundaries/boundary/Propagation"), accessFlags := 16409, slot := 5, constantValue := 0 }, { name := "NESTED", type := (.object "com/example/tx_at_boundaries/txatboundaries/boundary/Propagation"), accessFlags := 16409, slot := 6, constantValue := 0 }, { name := "whenRunning", type := (.object "com/example/tx_at_boundaries/txatboundaries/boundary/Propagation$Action"), accessFlags := 18, slot := 3, constantValue := 0 }, { name := "whenNoneRunning", type := (.object "com/example/tx_at_boundaries/txatboundaries/boundary/Propagation$Action"), accessFlags := 18, slot := 4, constantValue := 0 }, { name := "$VALUES", type := (.array (.object "com/example/tx_at_boundaries/txatboundaries/boundary/Propagation")), accessFlags := 4122, slot := 7, constantValue := 0 }]
  methods := #[k6m0]
  instanceTypes := #[(.object "java/lang/String"), .int, .int, (.object "com/example/tx_at_boundaries/txatboundaries/boundary/Propagation$Action"), (.object "com/example/tx_at_boundaries/txatboundaries/boundary/Propagation$Action")]
  staticTypes := #[(.object "com/example/tx_at_boundaries/txatboundaries/boundary/Propagation"), (.object "com/example/tx_at_boundaries/txatboundaries/boundary/Propagation"), (.object "com/example/tx_at_boundaries/txatboundaries/boundary/Propagation"), (.object "com/example/tx_at_boundaries/txatboundaries/boundary/Propagation"), (.object "com/example/tx_at_boundaries/txatboundaries/boundary/Propagation"), (.object "com/example/tx_at_boundaries/txatboundaries/boundary/Propagation"), (.object "com/example/tx_at_boundaries/txatboundaries/boundary/Propagation"), (.array (.object "com/example/tx_at_boundaries/txatboundaries/boundary/Propagation"))]
  resolved := Array.replicate 109 none
  statics := some 0 }

def pool7 : Array CpInfo := pool [(1, .class_ 2), (0, u "com/example/tx_at_boundaries/txatboundaries/boundary/Propagation$Action"), (2, u "START"), (0, u "Lcom/example/tx_at_boundaries/txatboundaries/boundary/Propagation$Action;"), (2, u "JOIN"), (2, u "NEST"), (2, u "SUSPEND_AND_START"), (2, u "SUSPEND_AND_RUN_WITHOUT"), (2, u "RUN_WITHOUT"), (2, u "REFUSE_NONE_RUNNING"), (2, u "REFUSE_RUNNING"), (2, u "$VALUES"), (0, u "[Lcom/example/tx_at_boundaries/txatboundaries/boundary/Propagation$Action;"), (6, .class_ 40), (1, u "java/lang/Enum"), (31, .class_ 73), (0, u "com/example/tx_at_boundaries/txatboundaries/boundary/Propagation")] 2

/-- com/example/tx_at_boundaries/txatboundaries/boundary/Propagation$Action -/
def k7 : Class := { plain "com/example/tx_at_boundaries/txatboundaries/boundary/Propagation$Action" (some 5) with
  accessFlags := 16433
  interfaces := #[]
  cf := some (fileOf pool7 1 #[.nestHost 72] #[] 16433 38 #[] #[{ accessFlags := 16409, nameIndex := 5, descriptorIndex := 6, attributes := #[] }, { accessFlags := 16409, nameIndex := 9, descriptorIndex := 6, attributes := #[] }, { accessFlags := 16409, nameIndex := 12, descriptorIndex := 6, attributes := #[] }, { accessFlags := 16409, nameIndex := 15, descriptorIndex := 6, attributes := #[] }, { accessFlags := 16409, nameIndex := 18, descriptorIndex := 6, attributes := #[] }, { accessFlags := 16409, nameIndex := 21, descriptorIndex := 6, attributes := #[] }, { accessFlags := 16409, nameIndex := 24, descriptorIndex := 6, attributes := #[] }, { accessFlags := 16409, nameIndex := 27, descriptorIndex := 6, attributes := #[] }, { accessFlags := 4122, nameIndex := 30, descriptorIndex := 31, attributes := #[] }])
  fields := #[{ name := "START", type := (.object "com/example/tx_at_boundaries/txatboundaries/boundary/Propagation$Action"), accessFlags := 16409, slot := 0, constantValue := 0 }, { name := "JOIN", type := (.object "com/example/tx_at_boundaries/txatboundaries/boundary/Propagation$Action"), accessFlags := 16409, slot := 1, constantValue := 0 }, { name := "NEST", type := (.object "com/example/tx_at_boundaries/txatboundaries/boundary/Propagation$Action"), accessFlags := 16409, slot := 2, constantValue := 0 }, { name := "SUSPEND_AND_START", type := (.object "com/example/tx_at_boundaries/txatboundaries/boundary/Propagation$Action"), accessFlags := 16409, slot := 3, constantValue := 0 }, { name := "SUSPEND_AND_RUN_WITHOUT", type := (.object "com/example/tx_at_boundaries/txatboundaries/boundary/Propagation$Action"), accessFlags := 16409, slot := 4, constantValue := 0 }, { name := "RUN_WITHOUT", type := (.object "com/example/tx_at_boundaries/txatboundaries/boundary/Propagation$Action"), accessFlags := 16409, slot := 5, constantValue := 0 }, { name := "REFUSE_NONE_RUNNING", type := (.object "com/example/tx_at_boundaries/txatboundaries/boundary/Propagation$Action"), accessFlags := 16409, slot := 6, constantValue := 0 }, { name := "REFUSE_RUNNING", type := (.object "com/example/tx_at_boundaries/txatboundaries/boundary/Propagation$Action"), accessFlags := 16409, slot := 7, constantValue := 0 }, { name := "$VALUES", type := (.array (.object "com/example/tx_at_boundaries/txatboundaries/boundary/Propagation$Action")), accessFlags := 4122, slot := 8, constantValue := 0 }]
  methods := #[]
  instanceTypes := #[(.object "java/lang/String"), .int, .int]
  staticTypes := #[(.object "com/example/tx_at_boundaries/txatboundaries/boundary/Propagation$Action"), (.object "com/example/tx_at_boundaries/txatboundaries/boundary/Propagation$Action"), (.object "com/example/tx_at_boundaries/txatboundaries/boundary/Propagation$Action"), (.object "com/example/tx_at_boundaries/txatboundaries/boundary/Propagation$Action"), (.object "com/example/tx_at_boundaries/txatboundaries/boundary/Propagation$Action"), (.object "com/example/tx_at_boundaries/txatboundaries/boundary/Propagation$Action"), (.object "com/example/tx_at_boundaries/txatboundaries/boundary/Propagation$Action"), (.object "com/example/tx_at_boundaries/txatboundaries/boundary/Propagation$Action"), (.array (.object "com/example/tx_at_boundaries/txatboundaries/boundary/Propagation$Action"))]
  resolved := Array.replicate 76 none
  statics := some 1 }

def pool8 : Array CpInfo := pool [(1, u "java/lang/Cloneable"), (0, .class_ 1), (0, u "java/lang/Object"), (0, .class_ 3)] 3

/-- java/lang/Cloneable -/
def k8 : Class := { plain "java/lang/Cloneable" (some 0) with
  accessFlags := 1537
  interfaces := #[]
  cf := some (fileOf pool8 2 #[] #[] 1537 4 #[] #[])
  fields := #[]
  methods := #[]
  instanceTypes := #[]
  staticTypes := #[]
  resolved := Array.replicate 8 none
  statics := none }

/-- the primitive byte -/
def k9 : Class := { plain "byte" none with kind := .primitive 'B', accessFlags := 0x411 }
/-- [B -/
def k10 : Class := { plain "[B" (some 0) with kind := .array 9 .byte, interfaces := #[8, 4], accessFlags := 1041 }

/-- the primitive int -/
def k11 : Class := { plain "int" none with kind := .primitive 'I', accessFlags := 0x411 }
/-- [I -/
def k12 : Class := { plain "[I" (some 0) with kind := .array 11 .int, interfaces := #[8, 4], accessFlags := 1041 }

def heap : Heap := #[{ cls := 6, slots := #[.ref 10, .ref 11, .ref 12, .ref 13, .ref 14, .ref 15, .ref 16, .null], vm := .statics 6 },
  { cls := 7, slots := #[.ref 7, .ref 2, .ref 6, .ref 3, .ref 4, .ref 9, .ref 8, .ref 5, .null], vm := .statics 7 },
  { cls := 7, slots := #[.null, .int 0, .int 0], vm := .none },
  { cls := 7, slots := #[.null, .int 1, .int 0], vm := .none },
  { cls := 7, slots := #[.null, .int 2, .int 0], vm := .none },
  { cls := 7, slots := #[.null, .int 3, .int 0], vm := .none },
  { cls := 7, slots := #[.null, .int 4, .int 0], vm := .none },
  { cls := 7, slots := #[.null, .int 5, .int 0], vm := .none },
  { cls := 7, slots := #[.null, .int 6, .int 0], vm := .none },
  { cls := 7, slots := #[.null, .int 7, .int 0], vm := .none },
  { cls := 6, slots := #[.null, .int 0, .int 0, .ref 2, .ref 7], vm := .none },
  { cls := 6, slots := #[.null, .int 1, .int 0, .ref 2, .ref 9], vm := .none },
  { cls := 6, slots := #[.null, .int 2, .int 0, .ref 2, .ref 8], vm := .none },
  { cls := 6, slots := #[.null, .int 3, .int 0, .ref 3, .ref 7], vm := .none },
  { cls := 6, slots := #[.null, .int 4, .int 0, .ref 4, .ref 9], vm := .none },
  { cls := 6, slots := #[.null, .int 5, .int 0, .ref 5, .ref 9], vm := .none },
  { cls := 6, slots := #[.null, .int 6, .int 0, .ref 6, .ref 7], vm := .none }]
def classes : Array Class := #[k0, k1, k2, k3, k4, k5, k6, k7, k8, k9, k10, k11, k12]
def interned : List (Array UInt16 × Addr) := []
def slotsUsed : Nat := 76
def theMethod : MethodId := ⟨1, 3⟩
def args0 : Array Value := #[.int 5, .int 1]
def aboutOver (below : List Frame) : State where
  vm := { classes := classes, interned := interned.toArray }
  heap := heap
  slotsUsed := slotsUsed
  threads := #[{ frames := .invoking theMethod args0 :: below }]
def below0 : List Frame := [.native { method := ⟨0, 0⟩, args := #[] }]
def about1 : State := aboutOver below0
def p0 : Program := .bare "" "" ""
def e0 : Env := launch0.env 0 0 0
theorem w_frames : about1.frames = Frame.invoking theMethod args0 :: below0 := rfl
set_option maxRecDepth 65536 in
theorem w_args : argsFit about1.vm theMethod args0 = true := by decide +kernel
set_option maxRecDepth 65536 in
theorem w_heap : heapFits about1 = true := by decide +kernel
set_option maxRecDepth 65536 in
theorem w_runnable : about1.curStatus? = some .runnable := by decide +kernel
set_option maxRecDepth 65536 in
theorem w_alone : about1.alone = true := by decide +kernel
set_option maxRecDepth 65536 in
theorem w_named : about1.methodNamed? x = some theMethod := by decide +kernel
set_option maxRecDepth 65536 in
theorem w_hears : about1.hears theMethod below0 = true := by decide +kernel
set_option maxRecDepth 65536 in
theorem w_ripe : about1.ripe theMethod args0 below0 = true := by decide +kernel
theorem w_running : about1.status = .running := rfl
set_option maxRecDepth 65536 in
theorem w_room : about1.hasRoom e0.platform room_1 = true :=
  launch0.hasRoom_least _ room_1 (by decide +kernel) (by decide +kernel) (by decide +kernel) (by decide +kernel) (by decide +kernel) (by decide +kernel)
theorem allAtoms_all (ts : List Jvm.Cond) (a : Array Jvm.Value) (st : Jvm.State) : (allAtoms ts).before a st = ts.all (fun c => c.before a st) := by
  induction ts with
  | nil => rfl
  | cons c t ih =>
    show (Jvm.Cond.and c (allAtoms t)).before a st = _
    rw [Jvm.Cond.before_and, ih, List.all_cons]
def words1 : List Jvm.Cond := Jvm.Cond.code x code maxLocals ret :: tables_1
/-- a 'code' word, met by the world's own term for the bytes: nothing is compared byte by byte -/
theorem code_word {y : MethodName} {bytes : ByteArray} {mx : Nat} {rt : Option FieldType} {a : Array Value} {s : State} {m : MethodId} {meth : Method} {c : Code} (h1 : s.methodNamed? y = some m) (h2 : s.vm.method? m = some meth) (h3 : meth.code = some c) (h4 : c.code = bytes)
    (h5 : (c.maxLocals == mx && c.exceptionTable.isEmpty && decide (c.maxStack ≤ mostOperands) && decide (meth.sig.returnType = rt) && !meth.locks && decide (parseMethodDescriptor y.desc = some meth.sig)) = true) : (Jvm.Cond.code y bytes mx rt).before a s = true := by
  simp only [Bool.and_eq_true, beq_iff_eq, Bool.not_eq_true', decide_eq_true_eq] at h5
  obtain ⟨⟨⟨⟨⟨g1, g2⟩, g3⟩, g4⟩, g5⟩, g6⟩ := h5
  simp [Cond.before, Cond.holds, Cond.value, h1, h2, h3, h4, g1, g2, g3, g4, g5, g6]
def isCode : Jvm.Cond → Bool
  | .code _ _ _ _ => true
  | _ => false
theorem all_split {L : List Jvm.Cond} {P : Jvm.Cond → Bool} (h1 : L.all (fun c => isCode c || P c) = true) (h2 : ∀ c ∈ L.filter isCode, P c = true) : L.all P = true := by
  refine List.all_eq_true.mpr fun c hc => ?_
  have h := List.all_eq_true.mp h1 c hc
  rcases Bool.eq_false_or_eq_true (isCode c) with hi | hi
  · exact h2 c (List.mem_filter.mpr ⟨hc, hi⟩)
  · simpa [hi] using h
set_option maxRecDepth 65536 in
theorem w_c0 : (Jvm.Cond.code x code maxLocals ret).before args0 about1 = true := code_word (m := ⟨1, 3⟩) (meth := k1m3) (c := k1c3) (by decide +kernel) rfl rfl rfl (by decide +kernel)
set_option maxRecDepth 65536 in
theorem w_c1 : (Jvm.Cond.code ({ cls := "com/example/tx_at_boundaries/txatboundaries/boundary/PropagationDecidePinLaw", name := "pick", desc := "(I)Lcom/example/tx_at_boundaries/txatboundaries/boundary/Propagation;" } : Jvm.MethodName) method_2_code (1 : Nat) (Option.some (Jvm.ClassFile.FieldType.object "com/example/tx_at_boundaries/txatboundaries/boundary/Propagation"))).before args0 about1 = true := code_word (m := ⟨1, 1⟩) (meth := k1m1) (c := k1c1) (by decide +kernel) rfl rfl rfl (by decide +kernel)
set_option maxRecDepth 65536 in
theorem w_c2 : (Jvm.Cond.code ({ cls := "com/example/tx_at_boundaries/txatboundaries/boundary/Propagation", name := "decide", desc := "(Z)Lcom/example/tx_at_boundaries/txatboundaries/boundary/Propagation$Action;" } : Jvm.MethodName) prog_10_method_4_code (2 : Nat) (Option.some (Jvm.ClassFile.FieldType.object "com/example/tx_at_boundaries/txatboundaries/boundary/Propagation$Action"))).before args0 about1 = true := code_word (m := ⟨6, 0⟩) (meth := k6m0) (c := k6c0) (by decide +kernel) rfl rfl rfl (by decide +kernel)
set_option maxRecDepth 65536 in
theorem w_c3 : (Jvm.Cond.code ({ cls := "com/example/tx_at_boundaries/txatboundaries/boundary/PropagationDecidePinLaw", name := "expected", desc := "(IZ)Lcom/example/tx_at_boundaries/txatboundaries/boundary/Propagation$Action;" } : Jvm.MethodName) method_3_code (2 : Nat) (Option.some (Jvm.ClassFile.FieldType.object "com/example/tx_at_boundaries/txatboundaries/boundary/Propagation$Action"))).before args0 about1 = true := code_word (m := ⟨1, 2⟩) (meth := k1m2) (c := k1c2) (by decide +kernel) rfl rfl rfl (by decide +kernel)
def codes1 : List Jvm.Cond := [Jvm.Cond.code x code maxLocals ret, Jvm.Cond.code ({ cls := "com/example/tx_at_boundaries/txatboundaries/boundary/PropagationDecidePinLaw", name := "pick", desc := "(I)Lcom/example/tx_at_boundaries/txatboundaries/boundary/Propagation;" } : Jvm.MethodName) method_2_code (1 : Nat) (Option.some (Jvm.ClassFile.FieldType.object "com/example/tx_at_boundaries/txatboundaries/boundary/Propagation")), Jvm.Cond.code ({ cls := "com/example/tx_at_boundaries/txatboundaries/boundary/Propagation", name := "decide", desc := "(Z)Lcom/example/tx_at_boundaries/txatboundaries/boundary/Propagation$Action;" } : Jvm.MethodName) prog_10_method_4_code (2 : Nat) (Option.some (Jvm.ClassFile.FieldType.object "com/example/tx_at_boundaries/txatboundaries/boundary/Propagation$Action")), Jvm.Cond.code ({ cls := "com/example/tx_at_boundaries/txatboundaries/boundary/PropagationDecidePinLaw", name := "expected", desc := "(IZ)Lcom/example/tx_at_boundaries/txatboundaries/boundary/Propagation$Action;" } : Jvm.MethodName) method_3_code (2 : Nat) (Option.some (Jvm.ClassFile.FieldType.object "com/example/tx_at_boundaries/txatboundaries/boundary/Propagation$Action"))]
set_option maxRecDepth 65536 in
theorem codes_eq : words1.filter isCode = codes1 := rfl
theorem w_codes : ∀ c ∈ words1.filter isCode, c.before args0 about1 = true := by
  rw [codes_eq]
  intro c hc
  simp only [codes1, List.mem_cons, List.not_mem_nil, or_false] at hc
  rcases hc with rfl | rfl | rfl | rfl
  · exact w_c0
  · exact w_c1
  · exact w_c2
  · exact w_c3
set_option maxRecDepth 65536 in
theorem w_t1 : (words1.take 24).all (fun c => isCode c || c.before args0 about1) = true := by decide +kernel
set_option maxRecDepth 65536 in
theorem w_t2 : ((words1.drop 24).take 24).all (fun c => isCode c || c.before args0 about1) = true := by decide +kernel
set_option maxRecDepth 65536 in
theorem w_t3 : ((words1.drop 24).drop 24).all (fun c => isCode c || c.before args0 about1) = true := by decide +kernel
theorem w_tables : (allAtoms (Jvm.Cond.code x code maxLocals ret :: tables_1)).before args0 about1 = true := by
  rw [allAtoms_all]
  show words1.all (fun c => c.before args0 about1) = true
  refine all_split ?_ w_codes
  rw [← List.take_append_drop 24 words1, List.all_append, w_t1, ← List.take_append_drop 24 (words1.drop 24), List.all_append, w_t2, w_t3]
  rfl
set_option maxRecDepth 65536 in
theorem w_case : (Jvm.Cond.and given_1 narrow_1).before args0 about1 = true := by decide +kernel
theorem w_applies : (headSpec (Jvm.Cond.code x code maxLocals ret :: tables_1) room_1).applies x e0.platform about1 = true :=
  (Spec.applies_iff w_frames).mpr ⟨w_running, w_runnable, w_alone, w_named, w_hears, w_ripe, w_room, w_tables⟩
theorem atStart : AtStart classFile x code maxLocals ret World_1 tables_1 room_1 Calls_1 rest_1 Pre_1 launch0 p0 e0 about1 theMethod args0 below0 :=
  ⟨lists_1, trivial, launch0.admits_env _ _ _, launch0.least_env, fairChoices_fair.cas, fairChoices_fair.clock, w_frames, w_args, w_heap, w_applies, trivial, trivial, w_case⟩
end start1
theorem witness_1 : WitnessClaimed_1 := ⟨start1.p0, start1.e0, start1.about1, start1.theMethod, start1.args0, start1.below0, start1.atStart⟩
end Jvm.Pilot.@@N@@
