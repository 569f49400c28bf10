import JvmDerived
import JvmDerived.Pilot.@@N@@Statement
import JvmDerived.Pilot.@@N@@Code
set_option linter.unusedVariables false
set_option linter.unusedSimpArgs false
namespace Jvm.Pilot.@@N@@
open Jvm Jvm.ClassFile Sem Op Lib Jvm.Free Jvm.Stand Jvm.LawKit Jvm.RoadKit Bundle Jvm.Pilot.@@N@@.Jvm.D
theorem own_sz {Z : State} {n0 : Nat} {h : Heap} (O : Old Z n0 h) : n0 ≤ h.size := O.1 ▸ O.2.1
theorem own_sta {args : Array Value} {s : State} {C n d K : String} (h : (Jvm.Cond.exactly (.static C n d) K).value args s none s [] = some true) (hi : (Jvm.Cond.initialized C).before args s = true) (hl : (Jvm.Cond.laysStatic C n d).before args s = true) :
    ∃ a, Sta s s.heap C n d (.ref a) ∧ Exa s s.heap a K ∧ (Term.static C n d).eval args s none [] s = some (.ref a) := by
  obtain ⟨a, ev⟩ := exa_v h
  exact ⟨a, Sta.start ev (Or.inr ⟨hi, hl⟩), Exa.start ev h, ev⟩
theorem own_fint {args : Array Value} {s : State} {t : Term} {a : Addr} {C n d : String} {k : Int32} (ev : t.eval args s none [] s = some (.ref a)) (h : (Jvm.Cond.eq (.field t C n d) (.int k)).value args s none s [] = some true) : Fld s s.heap a C n d (.int k) := by
  obtain ⟨x, y, h1, h2, -, -⟩ := cmp_v (Or.inl h)
  cases h2.symm.trans (Term.int_eval k)
  have h3 := h1
  rw [fld_at ev] at h3
  have : x = .int k := by
    cases x <;> simp_all [Cond.value, Term.eval]
  subst this
  exact Fld.start h3
theorem own_fnull {args : Array Value} {s : State} {t : Term} {a : Addr} {C n d : String} (ev : t.eval args s none [] s = some (.ref a)) (h : (Jvm.Cond.eq (.field t C n d) .null).value args s none s [] = some true) : Fld s s.heap a C n d .null := by
  have h1 := null_v h
  rw [fld_at ev] at h1
  exact Fld.start h1
theorem own_fexa {args : Array Value} {s : State} {t : Term} {a : Addr} {C n d K : String} (ev : t.eval args s none [] s = some (.ref a)) (h : (Jvm.Cond.exactly (.field t C n d) K).value args s none s [] = some true) :
    ∃ b, Fld s s.heap a C n d (.ref b) ∧ Exa s s.heap b K ∧ (Term.field t C n d).eval args s none [] s = some (.ref b) := by
  obtain ⟨b, e2⟩ := exa_v h
  have h1 := e2
  rw [fld_at ev] at h1
  exact ⟨b, Fld.start h1, Exa.start e2 h, e2⟩
theorem own_freq {args : Array Value} {s : State} {t u : Term} {a b : Addr} {C n d : String} (ev : t.eval args s none [] s = some (.ref a)) (eu : u.eval args s none [] s = some (.ref b)) (h : (Jvm.Cond.eq (.field t C n d) u).value args s none s [] = some true) : Fld s s.heap a C n d (.ref b) := by
  obtain ⟨x, y, h1, h2, -, -⟩ := cmp_v (Or.inl h)
  cases h2.symm.trans eu
  have h3 := h1
  rw [fld_at ev] at h3
  have : x = .ref b := by
    cases x <;> simp_all [Cond.value]
  subst this
  exact Fld.start h3
theorem own_nn {v : Value} {a : Addr} (h : v = .ref a) : ¬ v = Value.null := by rw [h]; exact nofun
theorem own_nref {n : String} {v : Value} (h : v.isRef = true) : narrow (.object n) v = v := by rcases ref_cases h with rfl | ⟨_, rfl⟩ <;> rfl
theorem own_fref {n : String} {v : Value} (h : v.isRef = true) : fits (.object n) v = true := by rcases ref_cases h with rfl | ⟨_, rfl⟩ <;> rfl
theorem own_nb {z : Int32} (h : z = 0 ∨ z = 1) : narrow .boolean (.int z) = .int z := by rcases h with rfl | rfl <;> rfl
theorem ow0 {a0 : Array Value} {Z : State} (hw : ∀ d ∈ tables_1, d.before a0 Z = true) : (Jvm.Cond.constant "com/example/fluss/fluss/entity/KindNamesCatalogsPinLaw" (31 : Nat) (2147483647 : Int32)).before a0 Z = true := hw _ (List.mem_of_getElem? (i := 0) rfl)
theorem ow1 {a0 : Array Value} {Z : State} (hw : ∀ d ∈ tables_1, d.before a0 Z = true) : (Jvm.Cond.methodLink "com/example/fluss/fluss/entity/KindNamesCatalogsPinLaw" (32 : Nat) ({ cls := "com/example/fluss/fluss/entity/KindNamesCatalogsPinLaw", name := "pick", desc := "(I)Lcom/example/fluss/fluss/entity/CatalogFile$Kind;" } : Jvm.MethodName)).before a0 Z = true := hw _ (List.mem_of_getElem? (i := 1) rfl)
theorem ow2 {a0 : Array Value} {Z : State} (hw : ∀ d ∈ tables_1, d.before a0 Z = true) : (Jvm.Cond.static ({ cls := "com/example/fluss/fluss/entity/KindNamesCatalogsPinLaw", name := "pick", desc := "(I)Lcom/example/fluss/fluss/entity/CatalogFile$Kind;" } : Jvm.MethodName)).before a0 Z = true := hw _ (List.mem_of_getElem? (i := 2) rfl)
theorem ow3 {a0 : Array Value} {Z : State} (hw : ∀ d ∈ tables_1, d.before a0 Z = true) : (Jvm.Cond.initialized "com/example/fluss/fluss/entity/KindNamesCatalogsPinLaw").before a0 Z = true := hw _ (List.mem_of_getElem? (i := 3) rfl)
theorem ow4 {a0 : Array Value} {Z : State} (hw : ∀ d ∈ tables_1, d.before a0 Z = true) : (Jvm.Cond.code ({ cls := "com/example/fluss/fluss/entity/KindNamesCatalogsPinLaw", name := "pick", desc := "(I)Lcom/example/fluss/fluss/entity/CatalogFile$Kind;" } : Jvm.MethodName) method_2_code (1 : Nat) (Option.some (Jvm.ClassFile.FieldType.object "com/example/fluss/fluss/entity/CatalogFile$Kind"))).before a0 Z = true := hw _ (List.mem_of_getElem? (i := 4) rfl)
theorem ow5 {a0 : Array Value} {Z : State} (hw : ∀ d ∈ tables_1, d.before a0 Z = true) : (Jvm.Cond.fieldLink "com/example/fluss/fluss/entity/KindNamesCatalogsPinLaw" (7 : Nat) "com/example/fluss/fluss/entity/CatalogFile$Kind" "PUBLIC" "Lcom/example/fluss/fluss/entity/CatalogFile$Kind;").before a0 Z = true := hw _ (List.mem_of_getElem? (i := 5) rfl)
theorem ow6 {a0 : Array Value} {Z : State} (hw : ∀ d ∈ tables_1, d.before a0 Z = true) : (Jvm.Cond.initialized "com/example/fluss/fluss/entity/CatalogFile$Kind").before a0 Z = true := hw _ (List.mem_of_getElem? (i := 6) rfl)
theorem ow7 {a0 : Array Value} {Z : State} (hw : ∀ d ∈ tables_1, d.before a0 Z = true) : (Jvm.Cond.laysStatic "com/example/fluss/fluss/entity/CatalogFile$Kind" "PUBLIC" "Lcom/example/fluss/fluss/entity/CatalogFile$Kind;").before a0 Z = true := hw _ (List.mem_of_getElem? (i := 7) rfl)
theorem ow8 {a0 : Array Value} {Z : State} (hw : ∀ d ∈ tables_1, d.before a0 Z = true) : (Jvm.Cond.methodLink "com/example/fluss/fluss/entity/KindNamesCatalogsPinLaw" (38 : Nat) ({ cls := "com/example/fluss/fluss/entity/CatalogFile$Kind", name := "namesCatalogs", desc := "()Z" } : Jvm.MethodName)).before a0 Z = true := hw _ (List.mem_of_getElem? (i := 8) rfl)
theorem ow9 {a0 : Array Value} {Z : State} (hw : ∀ d ∈ tables_1, d.before a0 Z = true) : (Jvm.Cond.declares ({ cls := "com/example/fluss/fluss/entity/CatalogFile$Kind", name := "namesCatalogs", desc := "()Z" } : Jvm.MethodName)).before a0 Z = true := hw _ (List.mem_of_getElem? (i := 9) rfl)
theorem ow10 {a0 : Array Value} {Z : State} (hw : ∀ d ∈ tables_1, d.before a0 Z = true) : (Jvm.Cond.instanceMethod ({ cls := "com/example/fluss/fluss/entity/CatalogFile$Kind", name := "namesCatalogs", desc := "()Z" } : Jvm.MethodName)).before a0 Z = true := hw _ (List.mem_of_getElem? (i := 10) rfl)
theorem ow11 {a0 : Array Value} {Z : State} (hw : ∀ d ∈ tables_1, d.before a0 Z = true) : (Jvm.Cond.selects "com/example/fluss/fluss/entity/CatalogFile$Kind" ({ cls := "com/example/fluss/fluss/entity/CatalogFile$Kind", name := "namesCatalogs", desc := "()Z" } : Jvm.MethodName) ({ cls := "com/example/fluss/fluss/entity/CatalogFile$Kind", name := "namesCatalogs", desc := "()Z" } : Jvm.MethodName)).before a0 Z = true := hw _ (List.mem_of_getElem? (i := 11) rfl)
theorem ow12 {a0 : Array Value} {Z : State} (hw : ∀ d ∈ tables_1, d.before a0 Z = true) : (Jvm.Cond.code ({ cls := "com/example/fluss/fluss/entity/CatalogFile$Kind", name := "namesCatalogs", desc := "()Z" } : Jvm.MethodName) prog_19_method_7_code (1 : Nat) (Option.some Jvm.ClassFile.FieldType.boolean)).before a0 Z = true := hw _ (List.mem_of_getElem? (i := 12) rfl)
theorem ow13 {a0 : Array Value} {Z : State} (hw : ∀ d ∈ tables_1, d.before a0 Z = true) : (Jvm.Cond.fieldLink "com/example/fluss/fluss/entity/CatalogFile$Kind" (16 : Nat) "com/example/fluss/fluss/entity/CatalogFile$Kind" "DELEGATE_PUBLIC" "Lcom/example/fluss/fluss/entity/CatalogFile$Kind;").before a0 Z = true := hw _ (List.mem_of_getElem? (i := 13) rfl)
theorem ow14 {a0 : Array Value} {Z : State} (hw : ∀ d ∈ tables_1, d.before a0 Z = true) : (Jvm.Cond.laysStatic "com/example/fluss/fluss/entity/CatalogFile$Kind" "DELEGATE_PUBLIC" "Lcom/example/fluss/fluss/entity/CatalogFile$Kind;").before a0 Z = true := hw _ (List.mem_of_getElem? (i := 14) rfl)
theorem ow15 {a0 : Array Value} {Z : State} (hw : ∀ d ∈ tables_1, d.before a0 Z = true) : (Jvm.Cond.fieldLink "com/example/fluss/fluss/entity/CatalogFile$Kind" (19 : Nat) "com/example/fluss/fluss/entity/CatalogFile$Kind" "DELEGATE_SYSTEM" "Lcom/example/fluss/fluss/entity/CatalogFile$Kind;").before a0 Z = true := hw _ (List.mem_of_getElem? (i := 15) rfl)
theorem ow16 {a0 : Array Value} {Z : State} (hw : ∀ d ∈ tables_1, d.before a0 Z = true) : (Jvm.Cond.laysStatic "com/example/fluss/fluss/entity/CatalogFile$Kind" "DELEGATE_SYSTEM" "Lcom/example/fluss/fluss/entity/CatalogFile$Kind;").before a0 Z = true := hw _ (List.mem_of_getElem? (i := 16) rfl)
theorem ow17 {a0 : Array Value} {Z : State} (hw : ∀ d ∈ tables_1, d.before a0 Z = true) : (Jvm.Cond.fieldLink "com/example/fluss/fluss/entity/CatalogFile$Kind" (22 : Nat) "com/example/fluss/fluss/entity/CatalogFile$Kind" "NEXT_CATALOG" "Lcom/example/fluss/fluss/entity/CatalogFile$Kind;").before a0 Z = true := hw _ (List.mem_of_getElem? (i := 17) rfl)
theorem ow18 {a0 : Array Value} {Z : State} (hw : ∀ d ∈ tables_1, d.before a0 Z = true) : (Jvm.Cond.laysStatic "com/example/fluss/fluss/entity/CatalogFile$Kind" "NEXT_CATALOG" "Lcom/example/fluss/fluss/entity/CatalogFile$Kind;").before a0 Z = true := hw _ (List.mem_of_getElem? (i := 18) rfl)
theorem ow19 {a0 : Array Value} {Z : State} (hw : ∀ d ∈ tables_1, d.before a0 Z = true) : (Jvm.Cond.methodLink "com/example/fluss/fluss/entity/KindNamesCatalogsPinLaw" (42 : Nat) ({ cls := "com/example/fluss/fluss/entity/KindNamesCatalogsPinLaw", name := "leadsToCatalogs", desc := "(I)Z" } : Jvm.MethodName)).before a0 Z = true := hw _ (List.mem_of_getElem? (i := 19) rfl)
theorem ow20 {a0 : Array Value} {Z : State} (hw : ∀ d ∈ tables_1, d.before a0 Z = true) : (Jvm.Cond.static ({ cls := "com/example/fluss/fluss/entity/KindNamesCatalogsPinLaw", name := "leadsToCatalogs", desc := "(I)Z" } : Jvm.MethodName)).before a0 Z = true := hw _ (List.mem_of_getElem? (i := 20) rfl)
theorem ow21 {a0 : Array Value} {Z : State} (hw : ∀ d ∈ tables_1, d.before a0 Z = true) : (Jvm.Cond.code ({ cls := "com/example/fluss/fluss/entity/KindNamesCatalogsPinLaw", name := "leadsToCatalogs", desc := "(I)Z" } : Jvm.MethodName) method_3_code (1 : Nat) (Option.some Jvm.ClassFile.FieldType.boolean)).before a0 Z = true := hw _ (List.mem_of_getElem? (i := 21) rfl)
theorem ow22 {a0 : Array Value} {Z : State} (hw : ∀ d ∈ tables_1, d.before a0 Z = true) : (Jvm.Cond.fieldLink "com/example/fluss/fluss/entity/KindNamesCatalogsPinLaw" (19 : Nat) "com/example/fluss/fluss/entity/CatalogFile$Kind" "SYSTEM_SUFFIX" "Lcom/example/fluss/fluss/entity/CatalogFile$Kind;").before a0 Z = true := hw _ (List.mem_of_getElem? (i := 22) rfl)
theorem ow23 {a0 : Array Value} {Z : State} (hw : ∀ d ∈ tables_1, d.before a0 Z = true) : (Jvm.Cond.laysStatic "com/example/fluss/fluss/entity/CatalogFile$Kind" "SYSTEM_SUFFIX" "Lcom/example/fluss/fluss/entity/CatalogFile$Kind;").before a0 Z = true := hw _ (List.mem_of_getElem? (i := 23) rfl)
theorem ow24 {a0 : Array Value} {Z : State} (hw : ∀ d ∈ tables_1, d.before a0 Z = true) : (Jvm.Cond.fieldLink "com/example/fluss/fluss/entity/KindNamesCatalogsPinLaw" (25 : Nat) "com/example/fluss/fluss/entity/CatalogFile$Kind" "DELEGATE_SYSTEM" "Lcom/example/fluss/fluss/entity/CatalogFile$Kind;").before a0 Z = true := hw _ (List.mem_of_getElem? (i := 24) rfl)
theorem ow25 {a0 : Array Value} {Z : State} (hw : ∀ d ∈ tables_1, d.before a0 Z = true) : (Jvm.Cond.fieldLink "com/example/fluss/fluss/entity/KindNamesCatalogsPinLaw" (28 : Nat) "com/example/fluss/fluss/entity/CatalogFile$Kind" "NEXT_CATALOG" "Lcom/example/fluss/fluss/entity/CatalogFile$Kind;").before a0 Z = true := hw _ (List.mem_of_getElem? (i := 25) rfl)
theorem ow26 {a0 : Array Value} {Z : State} (hw : ∀ d ∈ tables_1, d.before a0 Z = true) : (Jvm.Cond.fieldLink "com/example/fluss/fluss/entity/KindNamesCatalogsPinLaw" (22 : Nat) "com/example/fluss/fluss/entity/CatalogFile$Kind" "DELEGATE_PUBLIC" "Lcom/example/fluss/fluss/entity/CatalogFile$Kind;").before a0 Z = true := hw _ (List.mem_of_getElem? (i := 26) rfl)
theorem ow27 {a0 : Array Value} {Z : State} (hw : ∀ d ∈ tables_1, d.before a0 Z = true) : (Jvm.Cond.fieldLink "com/example/fluss/fluss/entity/KindNamesCatalogsPinLaw" (16 : Nat) "com/example/fluss/fluss/entity/CatalogFile$Kind" "REWRITE_SYSTEM" "Lcom/example/fluss/fluss/entity/CatalogFile$Kind;").before a0 Z = true := hw _ (List.mem_of_getElem? (i := 27) rfl)
theorem ow28 {a0 : Array Value} {Z : State} (hw : ∀ d ∈ tables_1, d.before a0 Z = true) : (Jvm.Cond.laysStatic "com/example/fluss/fluss/entity/CatalogFile$Kind" "REWRITE_SYSTEM" "Lcom/example/fluss/fluss/entity/CatalogFile$Kind;").before a0 Z = true := hw _ (List.mem_of_getElem? (i := 28) rfl)
theorem ow29 {a0 : Array Value} {Z : State} (hw : ∀ d ∈ tables_1, d.before a0 Z = true) : (Jvm.Cond.fieldLink "com/example/fluss/fluss/entity/KindNamesCatalogsPinLaw" (13 : Nat) "com/example/fluss/fluss/entity/CatalogFile$Kind" "SYSTEM" "Lcom/example/fluss/fluss/entity/CatalogFile$Kind;").before a0 Z = true := hw _ (List.mem_of_getElem? (i := 29) rfl)
theorem ow30 {a0 : Array Value} {Z : State} (hw : ∀ d ∈ tables_1, d.before a0 Z = true) : (Jvm.Cond.laysStatic "com/example/fluss/fluss/entity/CatalogFile$Kind" "SYSTEM" "Lcom/example/fluss/fluss/entity/CatalogFile$Kind;").before a0 Z = true := hw _ (List.mem_of_getElem? (i := 30) rfl)
theorem pd0 : parseMethodDescriptor "(I)Lcom/example/fluss/fluss/entity/CatalogFile$Kind;" = some ⟨[.int], some (.object "com/example/fluss/fluss/entity/CatalogFile$Kind")⟩ := by decide +kernel
theorem pd1 : parseMethodDescriptor "()Z" = some ⟨[], some .boolean⟩ := by decide +kernel
theorem pd2 : parseMethodDescriptor "(I)Z" = some ⟨[.int], some .boolean⟩ := by decide +kernel
theorem pn0 : plainName "com/example/fluss/fluss/entity/KindNamesCatalogsPinLaw" = true := by first | (simp [plainName, overriddenIn]; done) | decide +kernel
theorem pn1 : plainName "com/example/fluss/fluss/entity/CatalogFile$Kind" = true := by first | (simp [plainName, overriddenIn]; done) | decide +kernel
def pk (k : Int32) (w0 w1 w2 w3 w4 w5 w6 : Addr) : Addr := if k = 0 then w0 else if k = 1 then w1 else if k = 2 then w2 else if k = 3 then w3 else if k = 4 then w4 else if k = 5 then w5 else w6
def nc (a w4 w5 w6 : Addr) : Int32 := if a = w4 then 1 else if a = w5 then 1 else if a = w6 then 1 else 0
def ld (k : Int32) : Int32 := if k = 4 then 1 else if k = 5 then 1 else if k = 6 then 1 else 0
theorem d_method_2_code_0 : decode method_2_code 0 = .ok (.iload_n 0, 1) := by decide +kernel
theorem d_method_2_code_1 : decode method_2_code 1 = .ok (.ifCond .ne 7, 3) := by decide +kernel
theorem d_method_2_code_4 : decode method_2_code 4 = .ok (.getstatic 7, 3) := by decide +kernel
theorem d_method_2_code_7 : decode method_2_code 7 = .ok (.areturn, 1) := by decide +kernel
theorem d_method_2_code_8 : decode method_2_code 8 = .ok (.iload_n 0, 1) := by decide +kernel
theorem d_method_2_code_9 : decode method_2_code 9 = .ok (.iconst 1, 1) := by decide +kernel
theorem d_method_2_code_10 : decode method_2_code 10 = .ok (.if_icmp .ne 7, 3) := by decide +kernel
theorem d_method_2_code_13 : decode method_2_code 13 = .ok (.getstatic 13, 3) := by decide +kernel
theorem d_method_2_code_16 : decode method_2_code 16 = .ok (.areturn, 1) := by decide +kernel
theorem d_method_2_code_17 : decode method_2_code 17 = .ok (.iload_n 0, 1) := by decide +kernel
theorem d_method_2_code_18 : decode method_2_code 18 = .ok (.iconst 2, 1) := by decide +kernel
theorem d_method_2_code_19 : decode method_2_code 19 = .ok (.if_icmp .ne 7, 3) := by decide +kernel
theorem d_method_2_code_22 : decode method_2_code 22 = .ok (.getstatic 16, 3) := by decide +kernel
theorem d_method_2_code_25 : decode method_2_code 25 = .ok (.areturn, 1) := by decide +kernel
theorem d_method_2_code_26 : decode method_2_code 26 = .ok (.iload_n 0, 1) := by decide +kernel
theorem d_method_2_code_27 : decode method_2_code 27 = .ok (.iconst 3, 1) := by decide +kernel
theorem d_method_2_code_28 : decode method_2_code 28 = .ok (.if_icmp .ne 7, 3) := by decide +kernel
theorem d_method_2_code_31 : decode method_2_code 31 = .ok (.getstatic 19, 3) := by decide +kernel
theorem d_method_2_code_34 : decode method_2_code 34 = .ok (.areturn, 1) := by decide +kernel
theorem d_method_2_code_35 : decode method_2_code 35 = .ok (.iload_n 0, 1) := by decide +kernel
theorem d_method_2_code_36 : decode method_2_code 36 = .ok (.iconst 4, 1) := by decide +kernel
theorem d_method_2_code_37 : decode method_2_code 37 = .ok (.if_icmp .ne 7, 3) := by decide +kernel
theorem d_method_2_code_40 : decode method_2_code 40 = .ok (.getstatic 22, 3) := by decide +kernel
theorem d_method_2_code_43 : decode method_2_code 43 = .ok (.areturn, 1) := by decide +kernel
theorem d_method_2_code_44 : decode method_2_code 44 = .ok (.iload_n 0, 1) := by decide +kernel
theorem d_method_2_code_45 : decode method_2_code 45 = .ok (.iconst 5, 1) := by decide +kernel
theorem d_method_2_code_46 : decode method_2_code 46 = .ok (.if_icmp .ne 7, 3) := by decide +kernel
theorem d_method_2_code_49 : decode method_2_code 49 = .ok (.getstatic 25, 3) := by decide +kernel
theorem d_method_2_code_52 : decode method_2_code 52 = .ok (.areturn, 1) := by decide +kernel
theorem d_method_2_code_53 : decode method_2_code 53 = .ok (.getstatic 28, 3) := by decide +kernel
theorem d_method_2_code_56 : decode method_2_code 56 = .ok (.areturn, 1) := by decide +kernel
def Q_rmpick (Z : State) (k : Int32) (w0 : Addr) (w1 : Addr) (w2 : Addr) (w3 : Addr) (w4 : Addr) (w5 : Addr) (w6 : Addr) (h0 : Heap) (n0 : Nat) (v : Option Value) (h : Heap) (L : List Loc) : Prop := v = some (.ref (pk k w0 w1 w2 w3 w4 w5 w6)) ∧ Fr n0 L ∧ h = h0
theorem ef_rmpick (m : MethodId) (k : Int32) : entryFrame m #[(.int k)] 1 = mkF m 0 #[.val (.int k)] [] := by first | (simp [entryFrame, mkF, argsToLocals, Value.category]; done) | rfl
set_option maxRecDepth 65536 in
set_option maxHeartbeats 40000000 in
theorem rmpick (l : Launch) (Z : State) (a0 : Array Value) (hw : ∀ d ∈ tables_1, d.before a0 Z = true) (ws : List Jvm.Cond) (k : Int32) (w0 : Addr) (w1 : Addr) (w2 : Addr) (w3 : Addr) (w4 : Addr) (w5 : Addr) (w6 : Addr) (h0 : Heap) (n0 : Nat) (O0 : Old Z n0 h0) (S0 : Sta Z Z.heap "com/example/fluss/fluss/entity/CatalogFile$Kind" "PUBLIC" "Lcom/example/fluss/fluss/entity/CatalogFile$Kind;" (.ref w0)) (S1 : Sta Z Z.heap "com/example/fluss/fluss/entity/CatalogFile$Kind" "SYSTEM" "Lcom/example/fluss/fluss/entity/CatalogFile$Kind;" (.ref w1)) (S2 : Sta Z Z.heap "com/example/fluss/fluss/entity/CatalogFile$Kind" "REWRITE_SYSTEM" "Lcom/example/fluss/fluss/entity/CatalogFile$Kind;" (.ref w2)) (S3 : Sta Z Z.heap "com/example/fluss/fluss/entity/CatalogFile$Kind" "SYSTEM_SUFFIX" "Lcom/example/fluss/fluss/entity/CatalogFile$Kind;" (.ref w3)) (S4 : Sta Z Z.heap "com/example/fluss/fluss/entity/CatalogFile$Kind" "DELEGATE_PUBLIC" "Lcom/example/fluss/fluss/entity/CatalogFile$Kind;" (.ref w4)) (S5 : Sta Z Z.heap "com/example/fluss/fluss/entity/CatalogFile$Kind" "DELEGATE_SYSTEM" "Lcom/example/fluss/fluss/entity/CatalogFile$Kind;" (.ref w5)) (S6 : Sta Z Z.heap "com/example/fluss/fluss/entity/CatalogFile$Kind" "NEXT_CATALOG" "Lcom/example/fluss/fluss/entity/CatalogFile$Kind;" (.ref w6)) :
    MetFree l (⟨"com/example/fluss/fluss/entity/KindNamesCatalogsPinLaw", "pick", "(I)Lcom/example/fluss/fluss/entity/CatalogFile$Kind;"⟩ : MethodName) (head1 (Jvm.Cond.code (⟨"com/example/fluss/fluss/entity/KindNamesCatalogsPinLaw", "pick", "(I)Lcom/example/fluss/fluss/entity/CatalogFile$Kind;"⟩ : MethodName) method_2_code 1 (some (.object "com/example/fluss/fluss/entity/CatalogFile$Kind")) :: ws) ({ frames := 0, cells := 0, slots := 0, locals := 0 } : Room)) (fun aa U => aa = #[(.int k)] ∧ Z.Warmed39 U.vm ∧ U.heap = h0) (fun _ _ _ _ _ => True) (fun _ U o U' => ∃ v L, o = .returned v ∧ Q_rmpick Z k w0 w1 w2 w3 w4 w5 w6 h0 n0 v U'.heap L ∧ FrameEnd U o U' L ({ frames := 0, cells := 0, slots := 0, locals := 0 } : Room).cells ({ frames := 0, cells := 0, slots := 0, locals := 0 } : Room).slots) := by
  refine MetFree.of_bodySF (plainFor_of_name pn0) hisR ?_
  intro p e s m args below meth c s₁ Bd hml0 hP hK
  obtain ⟨rfl, hZ, hh⟩ := hP
  have hx := Bd.exec
  have hby := Bd.bytes
  have hml : c.maxLocals = 1 := hml0
  have hown : s.vm.findClass "com/example/fluss/fluss/entity/KindNamesCatalogsPinLaw" = some m.cls := findClass_of_methodNamed Bd.named
  have hnm := (name_of_methodNamed Bd.named Bd.method).1
  have X0 : Stand p l e ({ frames := 0, cells := 0, slots := 0, locals := 0 } : Room) s m #[(.int k)] below meth c s₁ [] 0 0 := Stand.of_body Bd
  have e0 : s₁.heap = h0 := by rw [← hh, Bd.state]; rfl
  have N0 := Fr.nil n0
  have K0 : Keep h0 h0 [] := Keep.refl _ _
  have pre0 : ∀ tgt, Steps p.tables e below (s₁.setTop (mkF m 0 #[.val (.int k)] [])) tgt → Steps p.tables e below (s₁.setTop (entryFrame m #[(.int k)] 1)) tgt := fun tgt kgo => castTop (ef_rmpick m k) kgo
  have pre1 : ∀ tgt, Steps p.tables e below (s₁.setTop (mkF m 1 #[.val (.int k)] [(.int k)])) tgt → Steps p.tables e below (s₁.setTop (entryFrame m #[(.int k)] 1)) tgt := by
    intro tgt kgo
    refine pre0 _ ?_
    refine XS.iloadN X0.here hx rfl (hb hby d_method_2_code_0) rfl ?_
    show Steps p.tables e below (s₁.setTop (mkF m 1 #[.val (.int k)] [(.int k)])) _
    exact kgo
  by_cases hc1_2 : k = (0 : Int32)
  · obtain ⟨T3, X3, e3, st3⟩ := getS2 X0 hx hZ hown (host := "") (Or.inl (ow5 hw)) Via.refl e0 (S0.ext O0.2) (g := (mkF m 4 #[.val (.int k)] [])) rfl (hb hby d_method_2_code_4)
    obtain ⟨fs, hr, hrun, hended, hW, hsame⟩ := X3.leave (v := some (.ref w0)) (fun h => by rw [Bd.returns] at h; cases h)
    refine ⟨_, _, pre1 _ ?_, hrun, hended, _, _, rfl, ?_, ⟨_, rfl⟩, hW, hsame.mono (by decide) (by decide)⟩
    · refine XS.ifNo X0.here hx rfl (hb hby d_method_2_code_1) rfl ((if0 _ _).trans (teq hc1_2).2) ?_
      show Steps p.tables e below (s₁.setTop (mkF m 4 #[.val (.int k)] [])) _
      refine st3 _ ?_
      show Steps p.tables e below (T3.setTop (mkF m 7 #[.val (.int k)] [(.ref w0)])) _
      exact retOut X3 hx Bd.returns rfl (Or.inr (Or.inr (Or.inr (Or.inr ⟨rfl, rfl, rfl⟩)))) (hb hby d_method_2_code_7) hr
    · show Q_rmpick Z k w0 w1 w2 w3 w4 w5 w6 h0 n0 _ T3.heap _
      rw [e3]
      exact ⟨by simp only [pk, if_pos hc1_2], N0, rfl⟩
  · have pre4 : ∀ tgt, Steps p.tables e below (s₁.setTop (mkF m 10 #[.val (.int k)] [(.int (1 : Int32)), (.int k)])) tgt → Steps p.tables e below (s₁.setTop (entryFrame m #[(.int k)] 1)) tgt := by
      intro tgt kgo
      refine pre1 _ ?_
      refine XS.ifYes X0.here hx rfl (pc0 := 1) (pc' := 8) rfl (hb hby d_method_2_code_1) rfl ((if0 _ _).trans (feq hc1_2).2) (by decide) (by decide) ?_
      show Steps p.tables e below (s₁.setTop (mkF m 8 #[.val (.int k)] [])) _
      refine XS.iloadN X0.here hx rfl (hb hby d_method_2_code_8) rfl ?_
      show Steps p.tables e below (s₁.setTop (mkF m 9 #[.val (.int k)] [(.int k)])) _
      refine XS.iconst X0.here hx rfl (hb hby d_method_2_code_9) ?_
      show Steps p.tables e below (s₁.setTop (mkF m 10 #[.val (.int k)] [(.int (1 : Int32)), (.int k)])) _
      exact kgo
    by_cases hc10_5 : k = (1 : Int32)
    · obtain ⟨T6, X6, e6, st6⟩ := getS2 X0 hx hZ hown (host := "") (Or.inl (ow29 hw)) Via.refl e0 (S1.ext O0.2) (g := (mkF m 13 #[.val (.int k)] [])) rfl (hb hby d_method_2_code_13)
      obtain ⟨fs, hr, hrun, hended, hW, hsame⟩ := X6.leave (v := some (.ref w1)) (fun h => by rw [Bd.returns] at h; cases h)
      refine ⟨_, _, pre4 _ ?_, hrun, hended, _, _, rfl, ?_, ⟨_, rfl⟩, hW, hsame.mono (by decide) (by decide)⟩
      · refine XS.icmpNo X0.here hx rfl (hb hby d_method_2_code_10) rfl (teq hc10_5).2 ?_
        show Steps p.tables e below (s₁.setTop (mkF m 13 #[.val (.int k)] [])) _
        refine st6 _ ?_
        show Steps p.tables e below (T6.setTop (mkF m 16 #[.val (.int k)] [(.ref w1)])) _
        exact retOut X6 hx Bd.returns rfl (Or.inr (Or.inr (Or.inr (Or.inr ⟨rfl, rfl, rfl⟩)))) (hb hby d_method_2_code_16) hr
      · show Q_rmpick Z k w0 w1 w2 w3 w4 w5 w6 h0 n0 _ T6.heap _
        rw [e6]
        exact ⟨by simp only [pk, if_neg hc1_2, if_pos hc10_5], N0, rfl⟩
    · have pre7 : ∀ tgt, Steps p.tables e below (s₁.setTop (mkF m 19 #[.val (.int k)] [(.int (2 : Int32)), (.int k)])) tgt → Steps p.tables e below (s₁.setTop (entryFrame m #[(.int k)] 1)) tgt := by
        intro tgt kgo
        refine pre4 _ ?_
        refine XS.icmpYes X0.here hx rfl (pc0 := 10) (pc' := 17) rfl (hb hby d_method_2_code_10) rfl (feq hc10_5).2 (by decide) (by decide) ?_
        show Steps p.tables e below (s₁.setTop (mkF m 17 #[.val (.int k)] [])) _
        refine XS.iloadN X0.here hx rfl (hb hby d_method_2_code_17) rfl ?_
        show Steps p.tables e below (s₁.setTop (mkF m 18 #[.val (.int k)] [(.int k)])) _
        refine XS.iconst X0.here hx rfl (hb hby d_method_2_code_18) ?_
        show Steps p.tables e below (s₁.setTop (mkF m 19 #[.val (.int k)] [(.int (2 : Int32)), (.int k)])) _
        exact kgo
      by_cases hc19_8 : k = (2 : Int32)
      · obtain ⟨T9, X9, e9, st9⟩ := getS2 X0 hx hZ hown (host := "") (Or.inl (ow27 hw)) Via.refl e0 (S2.ext O0.2) (g := (mkF m 22 #[.val (.int k)] [])) rfl (hb hby d_method_2_code_22)
        obtain ⟨fs, hr, hrun, hended, hW, hsame⟩ := X9.leave (v := some (.ref w2)) (fun h => by rw [Bd.returns] at h; cases h)
        refine ⟨_, _, pre7 _ ?_, hrun, hended, _, _, rfl, ?_, ⟨_, rfl⟩, hW, hsame.mono (by decide) (by decide)⟩
        · refine XS.icmpNo X0.here hx rfl (hb hby d_method_2_code_19) rfl (teq hc19_8).2 ?_
          show Steps p.tables e below (s₁.setTop (mkF m 22 #[.val (.int k)] [])) _
          refine st9 _ ?_
          show Steps p.tables e below (T9.setTop (mkF m 25 #[.val (.int k)] [(.ref w2)])) _
          exact retOut X9 hx Bd.returns rfl (Or.inr (Or.inr (Or.inr (Or.inr ⟨rfl, rfl, rfl⟩)))) (hb hby d_method_2_code_25) hr
        · show Q_rmpick Z k w0 w1 w2 w3 w4 w5 w6 h0 n0 _ T9.heap _
          rw [e9]
          exact ⟨by simp only [pk, if_neg hc1_2, if_neg hc10_5, if_pos hc19_8], N0, rfl⟩
      · have pre10 : ∀ tgt, Steps p.tables e below (s₁.setTop (mkF m 28 #[.val (.int k)] [(.int (3 : Int32)), (.int k)])) tgt → Steps p.tables e below (s₁.setTop (entryFrame m #[(.int k)] 1)) tgt := by
          intro tgt kgo
          refine pre7 _ ?_
          refine XS.icmpYes X0.here hx rfl (pc0 := 19) (pc' := 26) rfl (hb hby d_method_2_code_19) rfl (feq hc19_8).2 (by decide) (by decide) ?_
          show Steps p.tables e below (s₁.setTop (mkF m 26 #[.val (.int k)] [])) _
          refine XS.iloadN X0.here hx rfl (hb hby d_method_2_code_26) rfl ?_
          show Steps p.tables e below (s₁.setTop (mkF m 27 #[.val (.int k)] [(.int k)])) _
          refine XS.iconst X0.here hx rfl (hb hby d_method_2_code_27) ?_
          show Steps p.tables e below (s₁.setTop (mkF m 28 #[.val (.int k)] [(.int (3 : Int32)), (.int k)])) _
          exact kgo
        by_cases hc28_11 : k = (3 : Int32)
        · obtain ⟨T12, X12, e12, st12⟩ := getS2 X0 hx hZ hown (host := "") (Or.inl (ow22 hw)) Via.refl e0 (S3.ext O0.2) (g := (mkF m 31 #[.val (.int k)] [])) rfl (hb hby d_method_2_code_31)
          obtain ⟨fs, hr, hrun, hended, hW, hsame⟩ := X12.leave (v := some (.ref w3)) (fun h => by rw [Bd.returns] at h; cases h)
          refine ⟨_, _, pre10 _ ?_, hrun, hended, _, _, rfl, ?_, ⟨_, rfl⟩, hW, hsame.mono (by decide) (by decide)⟩
          · refine XS.icmpNo X0.here hx rfl (hb hby d_method_2_code_28) rfl (teq hc28_11).2 ?_
            show Steps p.tables e below (s₁.setTop (mkF m 31 #[.val (.int k)] [])) _
            refine st12 _ ?_
            show Steps p.tables e below (T12.setTop (mkF m 34 #[.val (.int k)] [(.ref w3)])) _
            exact retOut X12 hx Bd.returns rfl (Or.inr (Or.inr (Or.inr (Or.inr ⟨rfl, rfl, rfl⟩)))) (hb hby d_method_2_code_34) hr
          · show Q_rmpick Z k w0 w1 w2 w3 w4 w5 w6 h0 n0 _ T12.heap _
            rw [e12]
            exact ⟨by simp only [pk, if_neg hc1_2, if_neg hc10_5, if_neg hc19_8, if_pos hc28_11], N0, rfl⟩
        · have pre13 : ∀ tgt, Steps p.tables e below (s₁.setTop (mkF m 37 #[.val (.int k)] [(.int (4 : Int32)), (.int k)])) tgt → Steps p.tables e below (s₁.setTop (entryFrame m #[(.int k)] 1)) tgt := by
            intro tgt kgo
            refine pre10 _ ?_
            refine XS.icmpYes X0.here hx rfl (pc0 := 28) (pc' := 35) rfl (hb hby d_method_2_code_28) rfl (feq hc28_11).2 (by decide) (by decide) ?_
            show Steps p.tables e below (s₁.setTop (mkF m 35 #[.val (.int k)] [])) _
            refine XS.iloadN X0.here hx rfl (hb hby d_method_2_code_35) rfl ?_
            show Steps p.tables e below (s₁.setTop (mkF m 36 #[.val (.int k)] [(.int k)])) _
            refine XS.iconst X0.here hx rfl (hb hby d_method_2_code_36) ?_
            show Steps p.tables e below (s₁.setTop (mkF m 37 #[.val (.int k)] [(.int (4 : Int32)), (.int k)])) _
            exact kgo
          by_cases hc37_14 : k = (4 : Int32)
          · obtain ⟨T15, X15, e15, st15⟩ := getS2 X0 hx hZ hown (host := "") (Or.inl (ow26 hw)) Via.refl e0 (S4.ext O0.2) (g := (mkF m 40 #[.val (.int k)] [])) rfl (hb hby d_method_2_code_40)
            obtain ⟨fs, hr, hrun, hended, hW, hsame⟩ := X15.leave (v := some (.ref w4)) (fun h => by rw [Bd.returns] at h; cases h)
            refine ⟨_, _, pre13 _ ?_, hrun, hended, _, _, rfl, ?_, ⟨_, rfl⟩, hW, hsame.mono (by decide) (by decide)⟩
            · refine XS.icmpNo X0.here hx rfl (hb hby d_method_2_code_37) rfl (teq hc37_14).2 ?_
              show Steps p.tables e below (s₁.setTop (mkF m 40 #[.val (.int k)] [])) _
              refine st15 _ ?_
              show Steps p.tables e below (T15.setTop (mkF m 43 #[.val (.int k)] [(.ref w4)])) _
              exact retOut X15 hx Bd.returns rfl (Or.inr (Or.inr (Or.inr (Or.inr ⟨rfl, rfl, rfl⟩)))) (hb hby d_method_2_code_43) hr
            · show Q_rmpick Z k w0 w1 w2 w3 w4 w5 w6 h0 n0 _ T15.heap _
              rw [e15]
              exact ⟨by simp only [pk, if_neg hc1_2, if_neg hc10_5, if_neg hc19_8, if_neg hc28_11, if_pos hc37_14], N0, rfl⟩
          · have pre16 : ∀ tgt, Steps p.tables e below (s₁.setTop (mkF m 46 #[.val (.int k)] [(.int (5 : Int32)), (.int k)])) tgt → Steps p.tables e below (s₁.setTop (entryFrame m #[(.int k)] 1)) tgt := by
              intro tgt kgo
              refine pre13 _ ?_
              refine XS.icmpYes X0.here hx rfl (pc0 := 37) (pc' := 44) rfl (hb hby d_method_2_code_37) rfl (feq hc37_14).2 (by decide) (by decide) ?_
              show Steps p.tables e below (s₁.setTop (mkF m 44 #[.val (.int k)] [])) _
              refine XS.iloadN X0.here hx rfl (hb hby d_method_2_code_44) rfl ?_
              show Steps p.tables e below (s₁.setTop (mkF m 45 #[.val (.int k)] [(.int k)])) _
              refine XS.iconst X0.here hx rfl (hb hby d_method_2_code_45) ?_
              show Steps p.tables e below (s₁.setTop (mkF m 46 #[.val (.int k)] [(.int (5 : Int32)), (.int k)])) _
              exact kgo
            by_cases hc46_17 : k = (5 : Int32)
            · obtain ⟨T18, X18, e18, st18⟩ := getS2 X0 hx hZ hown (host := "") (Or.inl (ow24 hw)) Via.refl e0 (S5.ext O0.2) (g := (mkF m 49 #[.val (.int k)] [])) rfl (hb hby d_method_2_code_49)
              obtain ⟨fs, hr, hrun, hended, hW, hsame⟩ := X18.leave (v := some (.ref w5)) (fun h => by rw [Bd.returns] at h; cases h)
              refine ⟨_, _, pre16 _ ?_, hrun, hended, _, _, rfl, ?_, ⟨_, rfl⟩, hW, hsame.mono (by decide) (by decide)⟩
              · refine XS.icmpNo X0.here hx rfl (hb hby d_method_2_code_46) rfl (teq hc46_17).2 ?_
                show Steps p.tables e below (s₁.setTop (mkF m 49 #[.val (.int k)] [])) _
                refine st18 _ ?_
                show Steps p.tables e below (T18.setTop (mkF m 52 #[.val (.int k)] [(.ref w5)])) _
                exact retOut X18 hx Bd.returns rfl (Or.inr (Or.inr (Or.inr (Or.inr ⟨rfl, rfl, rfl⟩)))) (hb hby d_method_2_code_52) hr
              · show Q_rmpick Z k w0 w1 w2 w3 w4 w5 w6 h0 n0 _ T18.heap _
                rw [e18]
                exact ⟨by simp only [pk, if_neg hc1_2, if_neg hc10_5, if_neg hc19_8, if_neg hc28_11, if_neg hc37_14, if_pos hc46_17], N0, rfl⟩
            · obtain ⟨T19, X19, e19, st19⟩ := getS2 X0 hx hZ hown (host := "") (Or.inl (ow25 hw)) Via.refl e0 (S6.ext O0.2) (g := (mkF m 53 #[.val (.int k)] [])) rfl (hb hby d_method_2_code_53)
              obtain ⟨fs, hr, hrun, hended, hW, hsame⟩ := X19.leave (v := some (.ref w6)) (fun h => by rw [Bd.returns] at h; cases h)
              refine ⟨_, _, pre16 _ ?_, hrun, hended, _, _, rfl, ?_, ⟨_, rfl⟩, hW, hsame.mono (by decide) (by decide)⟩
              · refine XS.icmpYes X0.here hx rfl (pc0 := 46) (pc' := 53) rfl (hb hby d_method_2_code_46) rfl (feq hc46_17).2 (by decide) (by decide) ?_
                show Steps p.tables e below (s₁.setTop (mkF m 53 #[.val (.int k)] [])) _
                refine st19 _ ?_
                show Steps p.tables e below (T19.setTop (mkF m 56 #[.val (.int k)] [(.ref w6)])) _
                exact retOut X19 hx Bd.returns rfl (Or.inr (Or.inr (Or.inr (Or.inr ⟨rfl, rfl, rfl⟩)))) (hb hby d_method_2_code_56) hr
              · show Q_rmpick Z k w0 w1 w2 w3 w4 w5 w6 h0 n0 _ T19.heap _
                rw [e19]
                exact ⟨by simp only [pk, if_neg hc1_2, if_neg hc10_5, if_neg hc19_8, if_neg hc28_11, if_neg hc37_14, if_neg hc46_17], N0, rfl⟩
theorem d_prog_19_method_7_code_0 : decode prog_19_method_7_code 0 = .ok (.aload_n 0, 1) := by decide +kernel
theorem d_prog_19_method_7_code_1 : decode prog_19_method_7_code 1 = .ok (.getstatic 16, 3) := by decide +kernel
theorem d_prog_19_method_7_code_4 : decode prog_19_method_7_code 4 = .ok (.if_acmp .eq 17, 3) := by decide +kernel
theorem d_prog_19_method_7_code_7 : decode prog_19_method_7_code 7 = .ok (.aload_n 0, 1) := by decide +kernel
theorem d_prog_19_method_7_code_8 : decode prog_19_method_7_code 8 = .ok (.getstatic 19, 3) := by decide +kernel
theorem d_prog_19_method_7_code_11 : decode prog_19_method_7_code 11 = .ok (.if_acmp .eq 10, 3) := by decide +kernel
theorem d_prog_19_method_7_code_14 : decode prog_19_method_7_code 14 = .ok (.aload_n 0, 1) := by decide +kernel
theorem d_prog_19_method_7_code_15 : decode prog_19_method_7_code 15 = .ok (.getstatic 22, 3) := by decide +kernel
theorem d_prog_19_method_7_code_18 : decode prog_19_method_7_code 18 = .ok (.if_acmp .ne 7, 3) := by decide +kernel
theorem d_prog_19_method_7_code_21 : decode prog_19_method_7_code 21 = .ok (.iconst 1, 1) := by decide +kernel
theorem d_prog_19_method_7_code_22 : decode prog_19_method_7_code 22 = .ok (.goto 4, 3) := by decide +kernel
theorem d_prog_19_method_7_code_25 : decode prog_19_method_7_code 25 = .ok (.iconst 0, 1) := by decide +kernel
theorem d_prog_19_method_7_code_26 : decode prog_19_method_7_code 26 = .ok (.ireturn, 1) := by decide +kernel
def Q_rmnc (Z : State) (a : Addr) (w4 : Addr) (w5 : Addr) (w6 : Addr) (h0 : Heap) (n0 : Nat) (v : Option Value) (h : Heap) (L : List Loc) : Prop := v = some (.int (nc a w4 w5 w6)) ∧ Fr n0 L ∧ h = h0
theorem ef_rmnc (m : MethodId) (a : Addr) : entryFrame m #[(.ref a)] 1 = mkF m 0 #[.val (.ref a)] [] := by first | (simp [entryFrame, mkF, argsToLocals, Value.category]; done) | rfl
set_option maxRecDepth 65536 in
set_option maxHeartbeats 40000000 in
theorem rmnc (l : Launch) (Z : State) (a0 : Array Value) (hw : ∀ d ∈ tables_1, d.before a0 Z = true) (ws : List Jvm.Cond) (a : Addr) (w4 : Addr) (w5 : Addr) (w6 : Addr) (h0 : Heap) (n0 : Nat) (O0 : Old Z n0 h0) (S4 : Sta Z Z.heap "com/example/fluss/fluss/entity/CatalogFile$Kind" "DELEGATE_PUBLIC" "Lcom/example/fluss/fluss/entity/CatalogFile$Kind;" (.ref w4)) (S5 : Sta Z Z.heap "com/example/fluss/fluss/entity/CatalogFile$Kind" "DELEGATE_SYSTEM" "Lcom/example/fluss/fluss/entity/CatalogFile$Kind;" (.ref w5)) (S6 : Sta Z Z.heap "com/example/fluss/fluss/entity/CatalogFile$Kind" "NEXT_CATALOG" "Lcom/example/fluss/fluss/entity/CatalogFile$Kind;" (.ref w6)) :
    MetFree l (⟨"com/example/fluss/fluss/entity/CatalogFile$Kind", "namesCatalogs", "()Z"⟩ : MethodName) (head1 (Jvm.Cond.code (⟨"com/example/fluss/fluss/entity/CatalogFile$Kind", "namesCatalogs", "()Z"⟩ : MethodName) prog_19_method_7_code 1 (some .boolean) :: ws) ({ frames := 0, cells := 0, slots := 0, locals := 0 } : Room)) (fun aa U => aa = #[(.ref a)] ∧ Z.Warmed39 U.vm ∧ U.heap = h0) (fun _ _ _ _ _ => True) (fun _ U o U' => ∃ v L, o = .returned v ∧ Q_rmnc Z a w4 w5 w6 h0 n0 v U'.heap L ∧ FrameEnd U o U' L ({ frames := 0, cells := 0, slots := 0, locals := 0 } : Room).cells ({ frames := 0, cells := 0, slots := 0, locals := 0 } : Room).slots) := by
  refine MetFree.of_bodySF (plainFor_of_name pn1) hisR ?_
  intro p e s m args below meth c s₁ Bd hml0 hP hK
  obtain ⟨rfl, hZ, hh⟩ := hP
  have hx := Bd.exec
  have hby := Bd.bytes
  have hml : c.maxLocals = 1 := hml0
  have hown : s.vm.findClass "com/example/fluss/fluss/entity/CatalogFile$Kind" = some m.cls := findClass_of_methodNamed Bd.named
  have hnm := (name_of_methodNamed Bd.named Bd.method).1
  have X0 : Stand p l e ({ frames := 0, cells := 0, slots := 0, locals := 0 } : Room) s m #[(.ref a)] below meth c s₁ [] 0 0 := Stand.of_body Bd
  have e0 : s₁.heap = h0 := by rw [← hh, Bd.state]; rfl
  have N0 := Fr.nil n0
  have K0 : Keep h0 h0 [] := Keep.refl _ _
  have pre0 : ∀ tgt, Steps p.tables e below (s₁.setTop (mkF m 0 #[.val (.ref a)] [])) tgt → Steps p.tables e below (s₁.setTop (entryFrame m #[(.ref a)] 1)) tgt := fun tgt kgo => castTop (ef_rmnc m a) kgo
  obtain ⟨T1, X1, e1, st1⟩ := getS2 X0 hx hZ hown (host := "") (Or.inl (ow13 hw)) Via.refl e0 (S4.ext O0.2) (g := (mkF m 1 #[.val (.ref a)] [(.ref a)])) rfl (hb hby d_prog_19_method_7_code_1)
  have pre2 : ∀ tgt, Steps p.tables e below (T1.setTop (mkF m 4 #[.val (.ref a)] [(.ref w4), (.ref a)])) tgt → Steps p.tables e below (s₁.setTop (entryFrame m #[(.ref a)] 1)) tgt := by
    intro tgt kgo
    refine pre0 _ ?_
    refine XS.aloadN X0.here hx rfl (hb hby d_prog_19_method_7_code_0) rfl rfl ?_
    show Steps p.tables e below (s₁.setTop (mkF m 1 #[.val (.ref a)] [(.ref a)])) _
    refine st1 _ ?_
    show Steps p.tables e below (T1.setTop (mkF m 4 #[.val (.ref a)] [(.ref w4), (.ref a)])) _
    exact kgo
  by_cases hc4_3 : a = w4
  · obtain ⟨fs, hr, hrun, hended, hW, hsame⟩ := X1.leave (v := some (.int (1 : Int32))) (fun h => by rw [Bd.returns] at h; cases h)
    refine ⟨_, _, pre2 _ ?_, hrun, hended, _, _, rfl, ?_, ⟨_, rfl⟩, hW, hsame.mono (by decide) (by decide)⟩
    · refine Jvm.RoadKit.acmp (g := (mkF m 4 #[.val (.ref a)] [(.ref w4), (.ref a)])) X1 hx rfl rfl rfl (pc0 := 4) (pc' := 21) (same := true) rfl (hb hby d_prog_19_method_7_code_4) rfl (decide_eq_true (congrArg Value.ref hc4_3)) (by decide) (by decide) ?_
      show Steps p.tables e below (T1.setTop (mkF m 21 #[.val (.ref a)] [])) _
      refine XS.iconst X1.here hx rfl (hb hby d_prog_19_method_7_code_21) ?_
      show Steps p.tables e below (T1.setTop (mkF m 22 #[.val (.ref a)] [(.int (1 : Int32))])) _
      refine XS.goto X1.here hx rfl (pc0 := 22) (pc' := 26) rfl (hb hby d_prog_19_method_7_code_22) (by decide) (by decide) ?_
      show Steps p.tables e below (T1.setTop (mkF m 26 #[.val (.ref a)] [(.int (1 : Int32))])) _
      exact retOut X1 hx Bd.returns rfl (Or.inl ⟨rfl, Or.inr (Or.inl rfl), _, rfl⟩) (hb hby d_prog_19_method_7_code_26) hr
    · show Q_rmnc Z a w4 w5 w6 h0 n0 _ T1.heap _
      rw [e1]
      exact ⟨by simp only [nc, if_pos hc4_3], N0, rfl⟩
  · obtain ⟨T4, X4, e4, st4⟩ := getS2 X1 hx hZ hown (host := "") (Or.inl (ow15 hw)) Via.refl e1 (S5.ext O0.2) (g := (mkF m 8 #[.val (.ref a)] [(.ref a)])) rfl (hb hby d_prog_19_method_7_code_8)
    have pre5 : ∀ tgt, Steps p.tables e below (T4.setTop (mkF m 11 #[.val (.ref a)] [(.ref w5), (.ref a)])) tgt → Steps p.tables e below (s₁.setTop (entryFrame m #[(.ref a)] 1)) tgt := by
      intro tgt kgo
      refine pre2 _ ?_
      refine Jvm.RoadKit.acmp (g := (mkF m 4 #[.val (.ref a)] [(.ref w4), (.ref a)])) X1 hx rfl rfl rfl (pc0 := 4) (pc' := 7) (same := false) rfl (hb hby d_prog_19_method_7_code_4) rfl (decide_eq_false (fun q => hc4_3 (Value.ref.inj q))) (by decide) (by decide) ?_
      show Steps p.tables e below (T1.setTop (mkF m 7 #[.val (.ref a)] [])) _
      refine XS.aloadN X1.here hx rfl (hb hby d_prog_19_method_7_code_7) rfl rfl ?_
      show Steps p.tables e below (T1.setTop (mkF m 8 #[.val (.ref a)] [(.ref a)])) _
      refine st4 _ ?_
      show Steps p.tables e below (T4.setTop (mkF m 11 #[.val (.ref a)] [(.ref w5), (.ref a)])) _
      exact kgo
    by_cases hc11_6 : a = w5
    · obtain ⟨fs, hr, hrun, hended, hW, hsame⟩ := X4.leave (v := some (.int (1 : Int32))) (fun h => by rw [Bd.returns] at h; cases h)
      refine ⟨_, _, pre5 _ ?_, hrun, hended, _, _, rfl, ?_, ⟨_, rfl⟩, hW, hsame.mono (by decide) (by decide)⟩
      · refine Jvm.RoadKit.acmp (g := (mkF m 11 #[.val (.ref a)] [(.ref w5), (.ref a)])) X4 hx rfl rfl rfl (pc0 := 11) (pc' := 21) (same := true) rfl (hb hby d_prog_19_method_7_code_11) rfl (decide_eq_true (congrArg Value.ref hc11_6)) (by decide) (by decide) ?_
        show Steps p.tables e below (T4.setTop (mkF m 21 #[.val (.ref a)] [])) _
        refine XS.iconst X4.here hx rfl (hb hby d_prog_19_method_7_code_21) ?_
        show Steps p.tables e below (T4.setTop (mkF m 22 #[.val (.ref a)] [(.int (1 : Int32))])) _
        refine XS.goto X4.here hx rfl (pc0 := 22) (pc' := 26) rfl (hb hby d_prog_19_method_7_code_22) (by decide) (by decide) ?_
        show Steps p.tables e below (T4.setTop (mkF m 26 #[.val (.ref a)] [(.int (1 : Int32))])) _
        exact retOut X4 hx Bd.returns rfl (Or.inl ⟨rfl, Or.inr (Or.inl rfl), _, rfl⟩) (hb hby d_prog_19_method_7_code_26) hr
      · show Q_rmnc Z a w4 w5 w6 h0 n0 _ T4.heap _
        rw [e4]
        exact ⟨by simp only [nc, if_neg hc4_3, if_pos hc11_6], N0, rfl⟩
    · obtain ⟨T7, X7, e7, st7⟩ := getS2 X4 hx hZ hown (host := "") (Or.inl (ow17 hw)) Via.refl e4 (S6.ext O0.2) (g := (mkF m 15 #[.val (.ref a)] [(.ref a)])) rfl (hb hby d_prog_19_method_7_code_15)
      have pre8 : ∀ tgt, Steps p.tables e below (T7.setTop (mkF m 18 #[.val (.ref a)] [(.ref w6), (.ref a)])) tgt → Steps p.tables e below (s₁.setTop (entryFrame m #[(.ref a)] 1)) tgt := by
        intro tgt kgo
        refine pre5 _ ?_
        refine Jvm.RoadKit.acmp (g := (mkF m 11 #[.val (.ref a)] [(.ref w5), (.ref a)])) X4 hx rfl rfl rfl (pc0 := 11) (pc' := 14) (same := false) rfl (hb hby d_prog_19_method_7_code_11) rfl (decide_eq_false (fun q => hc11_6 (Value.ref.inj q))) (by decide) (by decide) ?_
        show Steps p.tables e below (T4.setTop (mkF m 14 #[.val (.ref a)] [])) _
        refine XS.aloadN X4.here hx rfl (hb hby d_prog_19_method_7_code_14) rfl rfl ?_
        show Steps p.tables e below (T4.setTop (mkF m 15 #[.val (.ref a)] [(.ref a)])) _
        refine st7 _ ?_
        show Steps p.tables e below (T7.setTop (mkF m 18 #[.val (.ref a)] [(.ref w6), (.ref a)])) _
        exact kgo
      by_cases hc18_9 : a = w6
      · obtain ⟨fs, hr, hrun, hended, hW, hsame⟩ := X7.leave (v := some (.int (1 : Int32))) (fun h => by rw [Bd.returns] at h; cases h)
        refine ⟨_, _, pre8 _ ?_, hrun, hended, _, _, rfl, ?_, ⟨_, rfl⟩, hW, hsame.mono (by decide) (by decide)⟩
        · refine Jvm.RoadKit.acmp (g := (mkF m 18 #[.val (.ref a)] [(.ref w6), (.ref a)])) X7 hx rfl rfl rfl (pc0 := 18) (pc' := 21) (same := true) rfl (hb hby d_prog_19_method_7_code_18) rfl (decide_eq_true (congrArg Value.ref hc18_9)) (by decide) (by decide) ?_
          show Steps p.tables e below (T7.setTop (mkF m 21 #[.val (.ref a)] [])) _
          refine XS.iconst X7.here hx rfl (hb hby d_prog_19_method_7_code_21) ?_
          show Steps p.tables e below (T7.setTop (mkF m 22 #[.val (.ref a)] [(.int (1 : Int32))])) _
          refine XS.goto X7.here hx rfl (pc0 := 22) (pc' := 26) rfl (hb hby d_prog_19_method_7_code_22) (by decide) (by decide) ?_
          show Steps p.tables e below (T7.setTop (mkF m 26 #[.val (.ref a)] [(.int (1 : Int32))])) _
          exact retOut X7 hx Bd.returns rfl (Or.inl ⟨rfl, Or.inr (Or.inl rfl), _, rfl⟩) (hb hby d_prog_19_method_7_code_26) hr
        · show Q_rmnc Z a w4 w5 w6 h0 n0 _ T7.heap _
          rw [e7]
          exact ⟨by simp only [nc, if_neg hc4_3, if_neg hc11_6, if_pos hc18_9], N0, rfl⟩
      · obtain ⟨fs, hr, hrun, hended, hW, hsame⟩ := X7.leave (v := some (.int (0 : Int32))) (fun h => by rw [Bd.returns] at h; cases h)
        refine ⟨_, _, pre8 _ ?_, hrun, hended, _, _, rfl, ?_, ⟨_, rfl⟩, hW, hsame.mono (by decide) (by decide)⟩
        · refine Jvm.RoadKit.acmp (g := (mkF m 18 #[.val (.ref a)] [(.ref w6), (.ref a)])) X7 hx rfl rfl rfl (pc0 := 18) (pc' := 25) (same := false) rfl (hb hby d_prog_19_method_7_code_18) rfl (decide_eq_false (fun q => hc18_9 (Value.ref.inj q))) (by decide) (by decide) ?_
          show Steps p.tables e below (T7.setTop (mkF m 25 #[.val (.ref a)] [])) _
          refine XS.iconst X7.here hx rfl (hb hby d_prog_19_method_7_code_25) ?_
          show Steps p.tables e below (T7.setTop (mkF m 26 #[.val (.ref a)] [(.int (0 : Int32))])) _
          exact retOut X7 hx Bd.returns rfl (Or.inl ⟨rfl, Or.inr (Or.inl rfl), _, rfl⟩) (hb hby d_prog_19_method_7_code_26) hr
        · show Q_rmnc Z a w4 w5 w6 h0 n0 _ T7.heap _
          rw [e7]
          exact ⟨by simp only [nc, if_neg hc4_3, if_neg hc11_6, if_neg hc18_9], N0, rfl⟩
theorem d_method_3_code_0 : decode method_3_code 0 = .ok (.iload_n 0, 1) := by decide +kernel
theorem d_method_3_code_1 : decode method_3_code 1 = .ok (.iconst 4, 1) := by decide +kernel
theorem d_method_3_code_2 : decode method_3_code 2 = .ok (.if_icmp .ne 5, 3) := by decide +kernel
theorem d_method_3_code_5 : decode method_3_code 5 = .ok (.iconst 1, 1) := by decide +kernel
theorem d_method_3_code_6 : decode method_3_code 6 = .ok (.ireturn, 1) := by decide +kernel
theorem d_method_3_code_7 : decode method_3_code 7 = .ok (.iload_n 0, 1) := by decide +kernel
theorem d_method_3_code_8 : decode method_3_code 8 = .ok (.iconst 5, 1) := by decide +kernel
theorem d_method_3_code_9 : decode method_3_code 9 = .ok (.if_icmp .ne 5, 3) := by decide +kernel
theorem d_method_3_code_12 : decode method_3_code 12 = .ok (.iconst 1, 1) := by decide +kernel
theorem d_method_3_code_13 : decode method_3_code 13 = .ok (.ireturn, 1) := by decide +kernel
theorem d_method_3_code_14 : decode method_3_code 14 = .ok (.iload_n 0, 1) := by decide +kernel
theorem d_method_3_code_15 : decode method_3_code 15 = .ok (.bipush 6, 2) := by decide +kernel
theorem d_method_3_code_17 : decode method_3_code 17 = .ok (.if_icmp .ne 5, 3) := by decide +kernel
theorem d_method_3_code_20 : decode method_3_code 20 = .ok (.iconst 1, 1) := by decide +kernel
theorem d_method_3_code_21 : decode method_3_code 21 = .ok (.ireturn, 1) := by decide +kernel
theorem d_method_3_code_22 : decode method_3_code 22 = .ok (.iconst 0, 1) := by decide +kernel
theorem d_method_3_code_23 : decode method_3_code 23 = .ok (.ireturn, 1) := by decide +kernel
def Q_rmld (Z : State) (k : Int32) (h0 : Heap) (n0 : Nat) (v : Option Value) (h : Heap) (L : List Loc) : Prop := v = some (.int (ld k)) ∧ Fr n0 L ∧ h = h0
theorem ef_rmld (m : MethodId) (k : Int32) : entryFrame m #[(.int k)] 1 = mkF m 0 #[.val (.int k)] [] := by first | (simp [entryFrame, mkF, argsToLocals, Value.category]; done) | rfl
set_option maxRecDepth 65536 in
set_option maxHeartbeats 40000000 in
theorem rmld (l : Launch) (Z : State) (a0 : Array Value) (hw : ∀ d ∈ tables_1, d.before a0 Z = true) (ws : List Jvm.Cond) (k : Int32) (h0 : Heap) (n0 : Nat) (O0 : Old Z n0 h0) :
    MetFree l (⟨"com/example/fluss/fluss/entity/KindNamesCatalogsPinLaw", "leadsToCatalogs", "(I)Z"⟩ : MethodName) (head1 (Jvm.Cond.code (⟨"com/example/fluss/fluss/entity/KindNamesCatalogsPinLaw", "leadsToCatalogs", "(I)Z"⟩ : MethodName) method_3_code 1 (some .boolean) :: ws) ({ frames := 0, cells := 0, slots := 0, locals := 0 } : Room)) (fun aa U => aa = #[(.int k)] ∧ Z.Warmed39 U.vm ∧ U.heap = h0) (fun _ _ _ _ _ => True) (fun _ U o U' => ∃ v L, o = .returned v ∧ Q_rmld Z k h0 n0 v U'.heap L ∧ FrameEnd U o U' L ({ frames := 0, cells := 0, slots := 0, locals := 0 } : Room).cells ({ frames := 0, cells := 0, slots := 0, locals := 0 } : Room).slots) := by
  refine MetFree.of_bodySF (plainFor_of_name pn0) hisR ?_
  intro p e s m args below meth c s₁ Bd hml0 hP hK
  obtain ⟨rfl, hZ, hh⟩ := hP
  have hx := Bd.exec
  have hby := Bd.bytes
  have hml : c.maxLocals = 1 := hml0
  have hown : s.vm.findClass "com/example/fluss/fluss/entity/KindNamesCatalogsPinLaw" = some m.cls := findClass_of_methodNamed Bd.named
  have hnm := (name_of_methodNamed Bd.named Bd.method).1
  have X0 : Stand p l e ({ frames := 0, cells := 0, slots := 0, locals := 0 } : Room) s m #[(.int k)] below meth c s₁ [] 0 0 := Stand.of_body Bd
  have e0 : s₁.heap = h0 := by rw [← hh, Bd.state]; rfl
  have N0 := Fr.nil n0
  have K0 : Keep h0 h0 [] := Keep.refl _ _
  have pre0 : ∀ tgt, Steps p.tables e below (s₁.setTop (mkF m 0 #[.val (.int k)] [])) tgt → Steps p.tables e below (s₁.setTop (entryFrame m #[(.int k)] 1)) tgt := fun tgt kgo => castTop (ef_rmld m k) kgo
  have pre1 : ∀ tgt, Steps p.tables e below (s₁.setTop (mkF m 2 #[.val (.int k)] [(.int (4 : Int32)), (.int k)])) tgt → Steps p.tables e below (s₁.setTop (entryFrame m #[(.int k)] 1)) tgt := by
    intro tgt kgo
    refine pre0 _ ?_
    refine XS.iloadN X0.here hx rfl (hb hby d_method_3_code_0) rfl ?_
    show Steps p.tables e below (s₁.setTop (mkF m 1 #[.val (.int k)] [(.int k)])) _
    refine XS.iconst X0.here hx rfl (hb hby d_method_3_code_1) ?_
    show Steps p.tables e below (s₁.setTop (mkF m 2 #[.val (.int k)] [(.int (4 : Int32)), (.int k)])) _
    exact kgo
  by_cases hc2_2 : k = (4 : Int32)
  · obtain ⟨fs, hr, hrun, hended, hW, hsame⟩ := X0.leave (v := some (.int (1 : Int32))) (fun h => by rw [Bd.returns] at h; cases h)
    refine ⟨_, _, pre1 _ ?_, hrun, hended, _, _, rfl, ?_, ⟨_, rfl⟩, hW, hsame.mono (by decide) (by decide)⟩
    · refine XS.icmpNo X0.here hx rfl (hb hby d_method_3_code_2) rfl (teq hc2_2).2 ?_
      show Steps p.tables e below (s₁.setTop (mkF m 5 #[.val (.int k)] [])) _
      refine XS.iconst X0.here hx rfl (hb hby d_method_3_code_5) ?_
      show Steps p.tables e below (s₁.setTop (mkF m 6 #[.val (.int k)] [(.int (1 : Int32))])) _
      exact retOut X0 hx Bd.returns rfl (Or.inl ⟨rfl, Or.inr (Or.inl rfl), _, rfl⟩) (hb hby d_method_3_code_6) hr
    · show Q_rmld Z k h0 n0 _ s₁.heap _
      rw [e0]
      exact ⟨by simp only [ld, if_pos hc2_2], N0, rfl⟩
  · have pre3 : ∀ tgt, Steps p.tables e below (s₁.setTop (mkF m 9 #[.val (.int k)] [(.int (5 : Int32)), (.int k)])) tgt → Steps p.tables e below (s₁.setTop (entryFrame m #[(.int k)] 1)) tgt := by
      intro tgt kgo
      refine pre1 _ ?_
      refine XS.icmpYes X0.here hx rfl (pc0 := 2) (pc' := 7) rfl (hb hby d_method_3_code_2) rfl (feq hc2_2).2 (by decide) (by decide) ?_
      show Steps p.tables e below (s₁.setTop (mkF m 7 #[.val (.int k)] [])) _
      refine XS.iloadN X0.here hx rfl (hb hby d_method_3_code_7) rfl ?_
      show Steps p.tables e below (s₁.setTop (mkF m 8 #[.val (.int k)] [(.int k)])) _
      refine XS.iconst X0.here hx rfl (hb hby d_method_3_code_8) ?_
      show Steps p.tables e below (s₁.setTop (mkF m 9 #[.val (.int k)] [(.int (5 : Int32)), (.int k)])) _
      exact kgo
    by_cases hc9_4 : k = (5 : Int32)
    · obtain ⟨fs, hr, hrun, hended, hW, hsame⟩ := X0.leave (v := some (.int (1 : Int32))) (fun h => by rw [Bd.returns] at h; cases h)
      refine ⟨_, _, pre3 _ ?_, hrun, hended, _, _, rfl, ?_, ⟨_, rfl⟩, hW, hsame.mono (by decide) (by decide)⟩
      · refine XS.icmpNo X0.here hx rfl (hb hby d_method_3_code_9) rfl (teq hc9_4).2 ?_
        show Steps p.tables e below (s₁.setTop (mkF m 12 #[.val (.int k)] [])) _
        refine XS.iconst X0.here hx rfl (hb hby d_method_3_code_12) ?_
        show Steps p.tables e below (s₁.setTop (mkF m 13 #[.val (.int k)] [(.int (1 : Int32))])) _
        exact retOut X0 hx Bd.returns rfl (Or.inl ⟨rfl, Or.inr (Or.inl rfl), _, rfl⟩) (hb hby d_method_3_code_13) hr
      · show Q_rmld Z k h0 n0 _ s₁.heap _
        rw [e0]
        exact ⟨by simp only [ld, if_neg hc2_2, if_pos hc9_4], N0, rfl⟩
    · have pre5 : ∀ tgt, Steps p.tables e below (s₁.setTop (mkF m 17 #[.val (.int k)] [(.int (6 : Int32)), (.int k)])) tgt → Steps p.tables e below (s₁.setTop (entryFrame m #[(.int k)] 1)) tgt := by
        intro tgt kgo
        refine pre3 _ ?_
        refine XS.icmpYes X0.here hx rfl (pc0 := 9) (pc' := 14) rfl (hb hby d_method_3_code_9) rfl (feq hc9_4).2 (by decide) (by decide) ?_
        show Steps p.tables e below (s₁.setTop (mkF m 14 #[.val (.int k)] [])) _
        refine XS.iloadN X0.here hx rfl (hb hby d_method_3_code_14) rfl ?_
        show Steps p.tables e below (s₁.setTop (mkF m 15 #[.val (.int k)] [(.int k)])) _
        refine XS.bipush X0.here hx rfl (hb hby d_method_3_code_15) ?_
        show Steps p.tables e below (s₁.setTop (mkF m 17 #[.val (.int k)] [(.int (6 : Int32)), (.int k)])) _
        exact kgo
      by_cases hc17_6 : k = (6 : Int32)
      · obtain ⟨fs, hr, hrun, hended, hW, hsame⟩ := X0.leave (v := some (.int (1 : Int32))) (fun h => by rw [Bd.returns] at h; cases h)
        refine ⟨_, _, pre5 _ ?_, hrun, hended, _, _, rfl, ?_, ⟨_, rfl⟩, hW, hsame.mono (by decide) (by decide)⟩
        · refine XS.icmpNo X0.here hx rfl (hb hby d_method_3_code_17) rfl (teq hc17_6).2 ?_
          show Steps p.tables e below (s₁.setTop (mkF m 20 #[.val (.int k)] [])) _
          refine XS.iconst X0.here hx rfl (hb hby d_method_3_code_20) ?_
          show Steps p.tables e below (s₁.setTop (mkF m 21 #[.val (.int k)] [(.int (1 : Int32))])) _
          exact retOut X0 hx Bd.returns rfl (Or.inl ⟨rfl, Or.inr (Or.inl rfl), _, rfl⟩) (hb hby d_method_3_code_21) hr
        · show Q_rmld Z k h0 n0 _ s₁.heap _
          rw [e0]
          exact ⟨by simp only [ld, if_neg hc2_2, if_neg hc9_4, if_pos hc17_6], N0, rfl⟩
      · obtain ⟨fs, hr, hrun, hended, hW, hsame⟩ := X0.leave (v := some (.int (0 : Int32))) (fun h => by rw [Bd.returns] at h; cases h)
        refine ⟨_, _, pre5 _ ?_, hrun, hended, _, _, rfl, ?_, ⟨_, rfl⟩, hW, hsame.mono (by decide) (by decide)⟩
        · refine XS.icmpYes X0.here hx rfl (pc0 := 17) (pc' := 22) rfl (hb hby d_method_3_code_17) rfl (feq hc17_6).2 (by decide) (by decide) ?_
          show Steps p.tables e below (s₁.setTop (mkF m 22 #[.val (.int k)] [])) _
          refine XS.iconst X0.here hx rfl (hb hby d_method_3_code_22) ?_
          show Steps p.tables e below (s₁.setTop (mkF m 23 #[.val (.int k)] [(.int (0 : Int32))])) _
          exact retOut X0 hx Bd.returns rfl (Or.inl ⟨rfl, Or.inr (Or.inl rfl), _, rfl⟩) (hb hby d_method_3_code_23) hr
        · show Q_rmld Z k h0 n0 _ s₁.heap _
          rw [e0]
          exact ⟨by simp only [ld, if_neg hc2_2, if_neg hc9_4, if_neg hc17_6], N0, rfl⟩
theorem own_mod7 {x i : Int32} (h : i = (x &&& (2147483647 : Int32)) % (7 : Int32)) : i = 0 ∨ i = 1 ∨ i = 2 ∨ i = 3 ∨ i = 4 ∨ i = 5 ∨ i = 6 := by
  have h1 := c_mask x 2147483647 31 (by decide) (by decide)
  have h2 := (c_irem (x &&& 2147483647) 7 7 rfl).1 (by omega)
  rw [← h] at h2
  have h3 : i.toInt = 0 ∨ i.toInt = 1 ∨ i.toInt = 2 ∨ i.toInt = 3 ∨ i.toInt = 4 ∨ i.toInt = 5 ∨ i.toInt = 6 := by omega
  rcases h3 with h | h | h | h | h | h | h
  · exact Or.inl (Int32.toInt_inj.mp h)
  · exact Or.inr (Or.inl (Int32.toInt_inj.mp h))
  · exact Or.inr (Or.inr (Or.inl (Int32.toInt_inj.mp h)))
  · exact Or.inr (Or.inr (Or.inr (Or.inl (Int32.toInt_inj.mp h))))
  · exact Or.inr (Or.inr (Or.inr (Or.inr (Or.inl (Int32.toInt_inj.mp h)))))
  · exact Or.inr (Or.inr (Or.inr (Or.inr (Or.inr (Or.inl (Int32.toInt_inj.mp h))))))
  · exact Or.inr (Or.inr (Or.inr (Or.inr (Or.inr (Or.inr (Int32.toInt_inj.mp h))))))
theorem own_pkE {Z : State} {C : String} (k : Int32) {w0 w1 w2 w3 w4 w5 w6 : Addr} (E0 : Exa Z Z.heap w0 C) (E1 : Exa Z Z.heap w1 C) (E2 : Exa Z Z.heap w2 C) (E3 : Exa Z Z.heap w3 C) (E4 : Exa Z Z.heap w4 C) (E5 : Exa Z Z.heap w5 C) (E6 : Exa Z Z.heap w6 C) : Exa Z Z.heap (pk k w0 w1 w2 w3 w4 w5 w6) C := by
  unfold pk
  split; · exact E0
  split; · exact E1
  split; · exact E2
  split; · exact E3
  split; · exact E4
  split; · exact E5
  exact E6
theorem own_law {i x : Int32} {w0 w1 w2 w3 w4 w5 w6 : Addr} (h : i = (x &&& (2147483647 : Int32)) % (7 : Int32)) (n04 : w0 ≠ w4) (n05 : w0 ≠ w5) (n06 : w0 ≠ w6) (n14 : w1 ≠ w4) (n15 : w1 ≠ w5) (n16 : w1 ≠ w6) (n24 : w2 ≠ w4) (n25 : w2 ≠ w5) (n26 : w2 ≠ w6) (n34 : w3 ≠ w4) (n35 : w3 ≠ w5) (n36 : w3 ≠ w6) :
    nc (pk i w0 w1 w2 w3 w4 w5 w6) w4 w5 w6 = ld i := by
  have hm := own_mod7 h
  clear h
  rcases hm with rfl | rfl | rfl | rfl | rfl | rfl | rfl <;> simp [pk, nc, ld, *]
def Q_rm0 (Z : State) (x0 : Int32) (w0 : Addr) (w1 : Addr) (w2 : Addr) (w3 : Addr) (w4 : Addr) (w5 : Addr) (w6 : Addr) (h0 : Heap) (n0 : Nat) (v : Option Value) (h : Heap) (L : List Loc) : Prop := v = some (.int (1 : Int32)) ∧ Fr n0 L
theorem ef_rm0 (m : MethodId) (x0 : Int32) : entryFrame m #[(.int x0)] maxLocals = mkF m 0 #[.val (.int x0), .unset, .unset] [] := by first | (simp [entryFrame, mkF, argsToLocals, Value.category, maxLocals]; done) | rfl
set_option maxRecDepth 65536 in
set_option maxHeartbeats 40000000 in
theorem rm0 (l : Launch) (Z : State) (a0 : Array Value) (hw : ∀ d ∈ tables_1, d.before a0 Z = true) (ws : List Jvm.Cond) (x0 : Int32) (w0 : Addr) (w1 : Addr) (w2 : Addr) (w3 : Addr) (w4 : Addr) (w5 : Addr) (w6 : Addr) (h0 : Heap) (n0 : Nat) (O0 : Old Z n0 h0) (S0 : Sta Z Z.heap "com/example/fluss/fluss/entity/CatalogFile$Kind" "PUBLIC" "Lcom/example/fluss/fluss/entity/CatalogFile$Kind;" (.ref w0)) (S1 : Sta Z Z.heap "com/example/fluss/fluss/entity/CatalogFile$Kind" "SYSTEM" "Lcom/example/fluss/fluss/entity/CatalogFile$Kind;" (.ref w1)) (S2 : Sta Z Z.heap "com/example/fluss/fluss/entity/CatalogFile$Kind" "REWRITE_SYSTEM" "Lcom/example/fluss/fluss/entity/CatalogFile$Kind;" (.ref w2)) (S3 : Sta Z Z.heap "com/example/fluss/fluss/entity/CatalogFile$Kind" "SYSTEM_SUFFIX" "Lcom/example/fluss/fluss/entity/CatalogFile$Kind;" (.ref w3)) (S4 : Sta Z Z.heap "com/example/fluss/fluss/entity/CatalogFile$Kind" "DELEGATE_PUBLIC" "Lcom/example/fluss/fluss/entity/CatalogFile$Kind;" (.ref w4)) (S5 : Sta Z Z.heap "com/example/fluss/fluss/entity/CatalogFile$Kind" "DELEGATE_SYSTEM" "Lcom/example/fluss/fluss/entity/CatalogFile$Kind;" (.ref w5)) (S6 : Sta Z Z.heap "com/example/fluss/fluss/entity/CatalogFile$Kind" "NEXT_CATALOG" "Lcom/example/fluss/fluss/entity/CatalogFile$Kind;" (.ref w6)) (E0 : Exa Z Z.heap w0 "com/example/fluss/fluss/entity/CatalogFile$Kind") (E1 : Exa Z Z.heap w1 "com/example/fluss/fluss/entity/CatalogFile$Kind") (E2 : Exa Z Z.heap w2 "com/example/fluss/fluss/entity/CatalogFile$Kind") (E3 : Exa Z Z.heap w3 "com/example/fluss/fluss/entity/CatalogFile$Kind") (E4 : Exa Z Z.heap w4 "com/example/fluss/fluss/entity/CatalogFile$Kind") (E5 : Exa Z Z.heap w5 "com/example/fluss/fluss/entity/CatalogFile$Kind") (E6 : Exa Z Z.heap w6 "com/example/fluss/fluss/entity/CatalogFile$Kind") (F0 : Fld Z Z.heap w0 "java/lang/Enum" "ordinal" "I" (.int (0 : Int32))) (F1 : Fld Z Z.heap w1 "java/lang/Enum" "ordinal" "I" (.int (1 : Int32))) (F2 : Fld Z Z.heap w2 "java/lang/Enum" "ordinal" "I" (.int (2 : Int32))) (F3 : Fld Z Z.heap w3 "java/lang/Enum" "ordinal" "I" (.int (3 : Int32))) (F4 : Fld Z Z.heap w4 "java/lang/Enum" "ordinal" "I" (.int (4 : Int32))) (F5 : Fld Z Z.heap w5 "java/lang/Enum" "ordinal" "I" (.int (5 : Int32))) (F6 : Fld Z Z.heap w6 "java/lang/Enum" "ordinal" "I" (.int (6 : Int32))) :
    MetFree l x (head1 (Jvm.Cond.code x code maxLocals ret :: ws) room_1) (fun aa U => aa = #[(.int x0)] ∧ Z.Warmed39 U.vm ∧ U.heap = h0) (fun _ _ _ _ _ => True) (fun _ U o U' => ∃ v L, o = .returned v ∧ Q_rm0 Z x0 w0 w1 w2 w3 w4 w5 w6 h0 n0 v U'.heap L ∧ FrameEnd U o U' L 0 0) := by
  refine MetFree.of_bodySF (plainFor_of_name pn0) hisR ?_
  intro p e s m args below meth c s₁ Bd hml0 hP hK
  obtain ⟨rfl, hZ, hh⟩ := hP
  have hx := Bd.exec
  have hby := Bd.bytes
  have hml : c.maxLocals = 3 := hml0
  have hown : s.vm.findClass "com/example/fluss/fluss/entity/KindNamesCatalogsPinLaw" = some m.cls := findClass_of_methodNamed Bd.named
  have hnm := (name_of_methodNamed Bd.named Bd.method).1
  have X0 : Stand p l e room_1 s m #[(.int x0)] below meth c s₁ [] 0 0 := Stand.of_body Bd
  have e0 : s₁.heap = h0 := by rw [← hh, Bd.state]; rfl
  have N0 := Fr.nil n0
  have pre0 : ∀ tgt, Steps p.tables e below (s₁.setTop (mkF m 0 #[.val (.int x0), .unset, .unset] [])) tgt → Steps p.tables e below (s₁.setTop (entryFrame m #[(.int x0)] maxLocals)) tgt := fun tgt kgo => castTop (ef_rm0 m x0) kgo
  have pre1 : ∀ tgt, Steps p.tables e below (s₁.setTop (mkF m 8 #[.val (.int x0), .val (.int ((x0 &&& (2147483647 : Int32)) % (7 : Int32))), .unset] [])) tgt → Steps p.tables e below (s₁.setTop (entryFrame m #[(.int x0)] maxLocals)) tgt := by
    intro tgt kgo
    refine pre0 _ ?_
    refine XS.iloadN X0.here hx rfl (hb hby at_0) rfl ?_
    show Steps p.tables e below (s₁.setTop (mkF m 1 #[.val (.int x0), .unset, .unset] [(.int x0)])) _
    refine X0.ldcI hx hown (mvT hZ (ow0 hw)) rfl (hb hby at_1) ?_
    show Steps p.tables e below (s₁.setTop (mkF m 3 #[.val (.int x0), .unset, .unset] [(.int (2147483647 : Int32)), (.int x0)])) _
    refine XS.iand X0.here hx rfl (hb hby at_3) rfl ?_
    show Steps p.tables e below (s₁.setTop (mkF m 4 #[.val (.int x0), .unset, .unset] [(.int (x0 &&& (2147483647 : Int32)))])) _
    refine XS.bipush X0.here hx rfl (hb hby at_4) ?_
    show Steps p.tables e below (s₁.setTop (mkF m 6 #[.val (.int x0), .unset, .unset] [(.int (7 : Int32)), (.int (x0 &&& (2147483647 : Int32)))])) _
    refine iremM (g := (mkF m 6 #[.val (.int x0), .unset, .unset] [(.int (7 : Int32)), (.int (x0 &&& (2147483647 : Int32)))])) X0 hx rfl (hb hby at_6) rfl (by decide) ?_
    show Steps p.tables e below (s₁.setTop (mkF m 7 #[.val (.int x0), .unset, .unset] [(.int ((x0 &&& (2147483647 : Int32)) % (7 : Int32)))])) _
    refine XS.istoreN X0.here hx rfl (hb hby at_7) rfl (l' := #[.val (.int x0), .val (.int ((x0 &&& (2147483647 : Int32)) % (7 : Int32))), .unset]) rfl ?_
    show Steps p.tables e below (s₁.setTop (mkF m 8 #[.val (.int x0), .val (.int ((x0 &&& (2147483647 : Int32)) % (7 : Int32))), .unset] [])) _
    exact kgo
  obtain ⟨i, hi⟩ : ∃ z, z = ((x0 &&& (2147483647 : Int32)) % (7 : Int32)) := ⟨_, rfl⟩
  have pre2 : ∀ tgt, Steps p.tables e below (s₁.setTop (mkF m 8 #[.val (.int x0), .val (.int i), .unset] [])) tgt → Steps p.tables e below (s₁.setTop (entryFrame m #[(.int x0)] maxLocals)) tgt := by
    rw [hi]; exact pre1
  obtain ⟨_, _, ⟨T3, L3, k3, n3⟩, -, X3, ⟨Lc3, hQ3, l3, y3, z3⟩, st3⟩ := Jvm.LawKit.callS X0 hx (y := (⟨"com/example/fluss/fluss/entity/KindNamesCatalogsPinLaw", "pick", "(I)Lcom/example/fluss/fluss/entity/CatalogFile$Kind;"⟩ : MethodName)) hown (mvT hZ (ow1 hw)) (mvT hZ (ow2 hw)) (mvT hZ (ow3 hw)) (mvT hZ (ow4 hw)) (by decide) (backOf (W := 0) (rmpick l Z a0 hw [] i w0 w1 w2 w3 w4 w5 w6 h0 n0 O0 S0 S1 S2 S3 S4 S5 S6) hZ (ow4 hw) (ow3 hw) (by decide) (by decide)) (g := (mkF m 9 #[.val (.int x0), .val (.int i), .unset] [(.int i)])) rfl (by rw [hml]; rfl) (argsL := [(.int i)]) (rest := []) (lenOf pd0 rfl) rfl (by show 2 * 0 + _ ≤ _; exact Nat.le_of_eq rfl) (hb hby at_9) (fun _ _ => ⟨rfl, e0, (by decide : 0 + 0 ≤ _), (by decide : 0 + 0 ≤ _)⟩)
  dsimp only [Pt.U, Pt.locs, Pt.cells, Pt.slots] at X3 l3 y3 z3 st3 hQ3
  subst l3 y3 z3
  obtain ⟨rfl, Nq3, eq3⟩ := hQ3
  have N4 := Fr.app N0 Nq3
  obtain ⟨cq5, kq5, q5a, q5b, q5c⟩ := isOf hZ eq3 ((own_pkE i E0 E1 E2 E3 E4 E5 E6).ext O0.2)
  obtain ⟨_, _, ⟨T5, L5, k5, n5⟩, -, X5, ⟨Lc5, hQ5, l5, y5, z5⟩, st5⟩ := X3.virtualBack hx (y := (⟨"com/example/fluss/fluss/entity/CatalogFile$Kind", "namesCatalogs", "()Z"⟩ : MethodName)) (z := (⟨"com/example/fluss/fluss/entity/CatalogFile$Kind", "namesCatalogs", "()Z"⟩ : MethodName)) hown (mvT hZ (ow8 hw)) (mvT hZ (ow9 hw)) (notFace_of_selects (args := #[]) (mvT hZ (ow11 hw))) (mvT hZ (ow11 hw)) (mvT hZ (ow10 hw)) (by decide) (backOf (W := 0) (rmnc l Z a0 hw [] (pk i w0 w1 w2 w3 w4 w5 w6) w4 w5 w6 h0 n0 O0 S4 S5 S6) hZ (ow12 hw) (ow6 hw) (by decide) (by decide)) q5a q5c (g := (mkF m 14 #[.val (.int x0), .val (.int i), .val (.ref (pk i w0 w1 w2 w3 w4 w5 w6))] [(.ref (pk i w0 w1 w2 w3 w4 w5 w6))])) rfl (by rw [hml]; rfl) (Steps.refl _) (argsL := []) (rest := []) (lenOf pd1 rfl) rfl (by show 2 * 0 + _ ≤ _; exact Nat.le_of_eq rfl) (hb hby at_14) (fun _ _ => ⟨rfl, eq3, (by decide : 0 + 0 ≤ _), (by decide : 0 + 0 ≤ _)⟩)
  dsimp only [Pt.U, Pt.locs, Pt.cells, Pt.slots] at X5 l5 y5 z5 st5 hQ5
  subst l5 y5 z5
  obtain ⟨rfl, Nq5, eq5⟩ := hQ5
  have N6 := Fr.app N4 Nq5
  obtain ⟨_, _, ⟨T7, L7, k7, n7⟩, -, X7, ⟨Lc7, hQ7, l7, y7, z7⟩, st7⟩ := Jvm.LawKit.callS X5 hx (y := (⟨"com/example/fluss/fluss/entity/KindNamesCatalogsPinLaw", "leadsToCatalogs", "(I)Z"⟩ : MethodName)) hown (mvT hZ (ow19 hw)) (mvT hZ (ow20 hw)) (mvT hZ (ow3 hw)) (mvT hZ (ow21 hw)) (by decide) (backOf (W := 1) (rmld l Z a0 hw [] i  h0 n0 O0 ) hZ (ow21 hw) (ow3 hw) (by decide) (by decide)) (g := (mkF m 18 #[.val (.int x0), .val (.int i), .val (.ref (pk i w0 w1 w2 w3 w4 w5 w6))] [(.int i), (.int (nc (pk i w0 w1 w2 w3 w4 w5 w6) w4 w5 w6))])) rfl (by rw [hml]; rfl) (argsL := [(.int i)]) (rest := [(.int (nc (pk i w0 w1 w2 w3 w4 w5 w6) w4 w5 w6))]) (lenOf pd2 rfl) rfl (by show 2 * 0 + _ ≤ _; exact Nat.le_of_eq rfl) (hb hby at_18) (fun _ _ => ⟨rfl, eq5, (by decide : 0 + 0 ≤ _), (by decide : 0 + 0 ≤ _)⟩)
  dsimp only [Pt.U, Pt.locs, Pt.cells, Pt.slots] at X7 l7 y7 z7 st7 hQ7
  subst l7 y7 z7
  obtain ⟨rfl, Nq7, eq7⟩ := hQ7
  have N8 := Fr.app N6 Nq7
  obtain ⟨fs, hr, hrun, hended, hW, hsame⟩ := X7.leave (v := some (.int (1 : Int32))) (fun h => by rw [Bd.returns] at h; cases h)
  refine ⟨_, _, pre2 _ ?_, hrun, hended, _, _, rfl, ?_, ⟨_, rfl⟩, hW, hsame.mono (by decide) (by decide)⟩
  · refine XS.iloadN X0.here hx rfl (hb hby at_8) rfl ?_
    show Steps p.tables e below (s₁.setTop (mkF m 9 #[.val (.int x0), .val (.int i), .unset] [(.int i)])) _
    refine st3 _ ?_
    show Steps p.tables e below (T3.setTop (mkF m 12 #[.val (.int x0), .val (.int i), .unset] [(.ref (pk i w0 w1 w2 w3 w4 w5 w6))])) _
    refine XS.astoreN X3.here hx rfl (hb hby at_12) rfl rfl (l' := #[.val (.int x0), .val (.int i), .val (.ref (pk i w0 w1 w2 w3 w4 w5 w6))]) rfl ?_
    show Steps p.tables e below (T3.setTop (mkF m 13 #[.val (.int x0), .val (.int i), .val (.ref (pk i w0 w1 w2 w3 w4 w5 w6))] [])) _
    refine XS.aloadN X3.here hx rfl (hb hby at_13) rfl rfl ?_
    show Steps p.tables e below (T3.setTop (mkF m 14 #[.val (.int x0), .val (.int i), .val (.ref (pk i w0 w1 w2 w3 w4 w5 w6))] [(.ref (pk i w0 w1 w2 w3 w4 w5 w6))])) _
    refine st5.trans ?_
    show Steps p.tables e below (T5.setTop (mkF m 17 #[.val (.int x0), .val (.int i), .val (.ref (pk i w0 w1 w2 w3 w4 w5 w6))] [(.int (nc (pk i w0 w1 w2 w3 w4 w5 w6) w4 w5 w6))])) _
    refine XS.iloadN X5.here hx rfl (hb hby at_17) rfl ?_
    show Steps p.tables e below (T5.setTop (mkF m 18 #[.val (.int x0), .val (.int i), .val (.ref (pk i w0 w1 w2 w3 w4 w5 w6))] [(.int i), (.int (nc (pk i w0 w1 w2 w3 w4 w5 w6) w4 w5 w6))])) _
    refine st7 _ ?_
    show Steps p.tables e below (T7.setTop (mkF m 21 #[.val (.int x0), .val (.int i), .val (.ref (pk i w0 w1 w2 w3 w4 w5 w6))] [(.int (ld i)), (.int (nc (pk i w0 w1 w2 w3 w4 w5 w6) w4 w5 w6))])) _
    refine XS.icmpNo X7.here hx rfl (hb hby at_21) rfl (teq (own_law hi (F0.ne F4 (by decide)) (F0.ne F5 (by decide)) (F0.ne F6 (by decide)) (F1.ne F4 (by decide)) (F1.ne F5 (by decide)) (F1.ne F6 (by decide)) (F2.ne F4 (by decide)) (F2.ne F5 (by decide)) (F2.ne F6 (by decide)) (F3.ne F4 (by decide)) (F3.ne F5 (by decide)) (F3.ne F6 (by decide)))).2 ?_
    show Steps p.tables e below (T7.setTop (mkF m 24 #[.val (.int x0), .val (.int i), .val (.ref (pk i w0 w1 w2 w3 w4 w5 w6))] [])) _
    refine XS.iconst X7.here hx rfl (hb hby at_24) ?_
    show Steps p.tables e below (T7.setTop (mkF m 25 #[.val (.int x0), .val (.int i), .val (.ref (pk i w0 w1 w2 w3 w4 w5 w6))] [(.int (1 : Int32))])) _
    refine XS.goto X7.here hx rfl (pc0 := 25) (pc' := 29) rfl (hb hby at_25) (by decide) (by decide) ?_
    show Steps p.tables e below (T7.setTop (mkF m 29 #[.val (.int x0), .val (.int i), .val (.ref (pk i w0 w1 w2 w3 w4 w5 w6))] [(.int (1 : Int32))])) _
    exact retOut X7 hx Bd.returns rfl (Or.inl ⟨rfl, Or.inr (Or.inl rfl), _, rfl⟩) (hb hby at_29) hr
  · show Q_rm0 Z x0 w0 w1 w2 w3 w4 w5 w6 h0 n0 _ T7.heap _
    rw [eq7]
    exact ⟨rfl, N8⟩
set_option maxRecDepth 65536 in
set_option maxHeartbeats 40000000 in
theorem comes_1 {Post : Tables → Env → Array Value → State → Outcome → State → Prop} (hpost : ∀ tb e args s v u, (limb_1_1.after args s (.returned v) u = true ∧ limb_1_2.after args s (.returned v) u = true ∧ True) → FrameEnd s (.returned v) u (Jvm.fieldLocs frame_1_writes args s ++ Jvm.arrayLocs frame_1_arrays args s ++ Jvm.staticLocs frame_1_statics s) 0 0 → Post tb e args s (.returned v) u) :
    ArmFor flags0 classFile x code maxLocals ret World_1 tables_1 room_1 Calls_1 rest_1 Pre_1 Post := by
  intro l hfl _ _ p e ha hc hk s m args below hf hA hF happ hP
  obtain ⟨hcalls, hrest, hpre⟩ := hP
  obtain ⟨-, -, -, hnamed, -, -, -, hat⟩ := (Spec.applies_iff hf).mp happ
  obtain ⟨hg, hn⟩ := and_e (Cond.before_iff.mp (show (Jvm.Cond.and given_1 narrow_1).before args s = true from hpre))
  obtain ⟨u1, v1⟩ := and_e hg
  obtain ⟨w0, rfl⟩ : ∃ w0 : Value, args = #[w0] := by
    have hs : args.size = 1 := by simpa [Cond.value, given_1] using u1
    obtain ⟨L⟩ := args
    match L, hs with
    | [w0], _ => exact ⟨w0, rfl⟩
  have hw := fun d (hd : d ∈ tables_1) => atoms_spec (ws := Jvm.Cond.code x code maxLocals ret :: tables_1) hat d (List.mem_cons_of_mem _ hd)
  have hfit : Fit s := fun {y c} hc i hi => by
    obtain ⟨ha, rfl⟩ := Array.getElem?_eq_some_iff.mp hc
    have q := List.all_eq_true.mp ((Array.all_eq_true_iff_forall_mem.mp hF) _ (Array.getElem_mem ha)) i (List.mem_range.mpr hi)
    simpa [Array.getElem?_eq_getElem hi] using q
  obtain ⟨i0, ei0⟩ := is_v v1
  obtain rfl : w0 = (.int i0) := Option.some.inj ei0
  obtain ⟨nu1, nv1⟩ := and_e hn
  obtain ⟨nu2, nv2⟩ := and_e nv1
  obtain ⟨nu3, nv3⟩ := and_e nv2
  obtain ⟨nu4, nv4⟩ := and_e nv3
  obtain ⟨nu5, nv5⟩ := and_e nv4
  obtain ⟨nu6, nv6⟩ := and_e nv5
  obtain ⟨nu7, nv7⟩ := and_e nv6
  obtain ⟨nu8, nv8⟩ := and_e nv7
  obtain ⟨nu9, nv9⟩ := and_e nv8
  obtain ⟨nu10, nv10⟩ := and_e nv9
  obtain ⟨nu11, nv11⟩ := and_e nv10
  obtain ⟨nu12, nv12⟩ := and_e nv11
  obtain ⟨nu13, nv13⟩ := and_e nv12
  obtain ⟨w0', S0, E0, ev0⟩ := own_sta nu1 (ow6 hw) (ow7 hw)
  obtain ⟨w4', S4, E4, ev4⟩ := own_sta nu2 (ow6 hw) (ow14 hw)
  obtain ⟨w5', S5, E5, ev5⟩ := own_sta nu5 (ow6 hw) (ow16 hw)
  obtain ⟨w6', S6, E6, ev6⟩ := own_sta nu7 (ow6 hw) (ow18 hw)
  obtain ⟨w3', S3, E3, ev3⟩ := own_sta nu9 (ow6 hw) (ow23 hw)
  obtain ⟨w2', S2, E2, ev2⟩ := own_sta nu11 (ow6 hw) (ow28 hw)
  obtain ⟨w1', S1, E1, ev1⟩ := own_sta nu13 (ow6 hw) (ow30 hw)
  have F0 := own_fint ev0 nu3
  have F4 := own_fint ev4 nu4
  have F5 := own_fint ev5 nu6
  have F6 := own_fint ev6 nu8
  have F3 := own_fint ev3 nu10
  have F2 := own_fint ev2 nu12
  have F1 := own_fint ev1 nv13
  obtain ⟨n, o, h1, h2, h3, _, L, rfl, ⟨rfl, N⟩, hq⟩ := rm0 l s _ hw tables_1 i0 w0' w1' w2' w3' w4' w5' w6' s.heap s.heap.size (Old.start s) S0 S1 S2 S3 S4 S5 S6 E0 E1 E2 E3 E4 E5 E6 F0 F1 F2 F3 F4 F5 F6 p e ha hc hk s m _ below hf ((Spec.applies_iff_loose hf).mp happ).1 ⟨rfl, State.Warmed39.refl s, rfl⟩ trivial
  refine ⟨n, _, h1, h2, h3, hpost _ _ _ _ _ _ ⟨Cond.after_iff.mpr rfl, Cond.after_iff.mpr (eq_i res_at (Term.int_eval (1)) rfl), trivial⟩ ⟨hq.1, hq.2.1, (hq.2.2.sift fun y hy => Or.inr (N y hy)).mono (by decide) (by decide)⟩⟩
theorem main_1_1 : Claimed_1_1 := comes_1 fun _ _ _ _ _ _ h hF => ⟨h.1, hF⟩
theorem main_1_2 : Claimed_1_2 := comes_1 fun _ _ _ _ _ _ h hF => ⟨h.2.1, hF⟩
end Jvm.Pilot.@@N@@
namespace Jvm.Pilot.@@N@@
open Jvm Jvm.ClassFile Sem Op Lib Jvm.Free Jvm.Stand Jvm.Pilot.@@N@@.Jvm.D
/-! MADE BY PROGRAM (witnessworld.py) out of the Statement's table words and the real class files: 12 classes; the members and pool entries that the words name. The judged class is class 1, her method 3. -/
namespace start1
open Jvm.ClassFile
def u (s : String) : CpInfo := .utf8 (stringToUtf16 s)
/-- a pool by its gaps: so many unusable entries, then the entry; so many at the end -/
def gap : Nat → List CpInfo → List CpInfo
  | 0, r => r
  | n + 1, r => .unusable :: gap n r
def poolList (es : List (Nat × CpInfo)) (last : Nat) : List CpInfo := es.foldr (fun e r => gap e.1 (e.2 :: r)) (gap last [])
def pool (es : List (Nat × CpInfo)) (last : Nat) : Array CpInfo := ⟨poolList es last⟩
def fileOf (pool : Array CpInfo) (this : Nat) (attrs : Array Attribute := #[]) (ms : Array MethodInfo := #[]) (fl : Nat := 33) (sup : Nat := 0) (ifs : Array Nat := #[]) (fds : Array FieldInfo := #[]) : ClassFile where
  minorVersion := 0
  majorVersion := 65
  constantPool := pool
  accessFlags := fl
  thisClass := this
  superClass := sup
  interfaces := ifs
  fields := fds
  methods := ms
  attributes := attrs
def plain (name : String) (sup : Option ClassId) : Class where
  name := name
  kind := .ordinary
  loader := none
  accessFlags := 33
  super := sup
  interfaces := #[]
  cf := none
  fields := #[]
  methods := #[]
  instanceTypes := #[]
  staticTypes := #[]
  resolved := #[]
  callSites := []
  init := .initialized
  statics := none
  mirror := none

def pool0 : Array CpInfo := pool [(5, u "<init>"), (0, u "()V"), (1, .class_ 10), (1, u "java/lang/Object")] 113

def k0m0 : Method := { name := "<init>", desc := "()V", sig := { parameters := [], returnType := none }, accessFlags := 1, code := none }
/-- java/lang/Object -/
def k0 : Class := { plain "java/lang/Object" none with
  accessFlags := 33
  interfaces := #[]
  cf := some (fileOf pool0 8 #[] #[{ accessFlags := 1, nameIndex := 5, descriptorIndex := 6, attributes := #[] }] 33 0 #[] #[])
  fields := #[]
  methods := #[k0m0]
  instanceTypes := #[]
  staticTypes := #[]
  resolved := Array.replicate 124 none
  statics := none }

def pool1 : Array CpInfo := pool [(2, .class_ 4), (1, u "java/lang/Object"), (0, u "<init>"), (0, u "()V"), (0, .fieldref 8 9), (0, .class_ 10), (0, .nameAndType 11 12), (0, u "com/example/fluss/fluss/entity/CatalogFile$Kind"), (0, u "PUBLIC"), (0, u "Lcom/example/fluss/fluss/entity/CatalogFile$Kind;"), (0, .fieldref 8 14), (0, .nameAndType 15 12), (0, u "SYSTEM"), (0, .fieldref 8 17), (0, .nameAndType 18 12), (0, u "REWRITE_SYSTEM"), (0, .fieldref 8 20), (0, .nameAndType 21 12), (0, u "SYSTEM_SUFFIX"), (0, .fieldref 8 23), (0, .nameAndType 24 12), (0, u "DELEGATE_PUBLIC"), (0, .fieldref 8 26), (0, .nameAndType 27 12), (0, u "DELEGATE_SYSTEM"), (0, .fieldref 8 29), (0, .nameAndType 30 12), (0, u "NEXT_CATALOG"), (0, .integer 2147483647), (0, .methodref 33 34), (0, .class_ 35), (0, .nameAndType 36 37), (0, u "com/example/fluss/fluss/entity/KindNamesCatalogsPinLaw"), (0, u "pick"), (0, u "(I)Lcom/example/fluss/fluss/entity/CatalogFile$Kind;"), (0, .methodref 8 39), (0, .nameAndType 40 41), (0, u "namesCatalogs"), (0, u "()Z"), (0, .methodref 33 43), (0, .nameAndType 44 45), (0, u "leadsToCatalogs"), (0, u "(I)Z"), (3, u "law")] 6

def k1m0 : Method := { name := "<init>", desc := "()V", sig := { parameters := [], returnType := none }, accessFlags := 2, code := none }
def k1c1 : Code := { maxStack := 2, maxLocals := 1, code := method_2_code, exceptionTable := #[], attributes := #[] }
def k1m1 : Method := { name := "pick", desc := "(I)Lcom/example/fluss/fluss/entity/CatalogFile$Kind;", sig := { parameters := [.int], returnType := some (.object "com/example/fluss/fluss/entity/CatalogFile$Kind") }, accessFlags := 10, code := some k1c1 }
def k1c2 : Code := { maxStack := 2, maxLocals := 1, code := method_3_code, exceptionTable := #[], attributes := #[] }
def k1m2 : Method := { name := "leadsToCatalogs", desc := "(I)Z", sig := { parameters := [.int], returnType := some .boolean }, accessFlags := 10, code := some k1c2 }
def k1c3 : Code := { maxStack := 2, maxLocals := 3, code := code, exceptionTable := #[], attributes := #[] }
def k1m3 : Method := { name := "law", desc := "(I)Z", sig := { parameters := [.int], returnType := some .boolean }, accessFlags := 9, code := some k1c3 }
/-- com/example/fluss/fluss/entity/KindNamesCatalogsPinLaw -/
def k1 : Class := { plain "com/example/fluss/fluss/entity/KindNamesCatalogsPinLaw" (some 0) with
  accessFlags := 49
  interfaces := #[]
  cf := some (fileOf pool1 33 #[] #[{ accessFlags := 2, nameIndex := 5, descriptorIndex := 6, attributes := #[] }, { accessFlags := 10, nameIndex := 36, descriptorIndex := 37, attributes := #[] }, { accessFlags := 10, nameIndex := 44, descriptorIndex := 45, attributes := #[] }, { accessFlags := 9, nameIndex := 49, descriptorIndex := 45, attributes := #[] }] 49 2 #[] #[])
  fields := #[]
  methods := #[k1m0, k1m1, k1m2, k1m3]
  instanceTypes := #[]
  staticTypes := #[]
  resolved := Array.replicate 56 none
  statics := none }

def pool2 : Array CpInfo := pool [(1, .class_ 2), (0, u "java/lang/constant/Constable"), (0, .class_ 4), (0, u "java/lang/Object")] 6

/-- java/lang/constant/Constable -/
def k2 : Class := { plain "java/lang/constant/Constable" (some 0) with
  accessFlags := 1537
  interfaces := #[]
  cf := some (fileOf pool2 1 #[] #[] 1537 3 #[] #[])
  fields := #[]
  methods := #[]
  instanceTypes := #[]
  staticTypes := #[]
  resolved := Array.replicate 11 none
  statics := none }

def pool3 : Array CpInfo := pool [(1, .class_ 2), (0, u "java/lang/Comparable"), (0, .class_ 4), (0, u "java/lang/Object")] 7

/-- java/lang/Comparable -/
def k3 : Class := { plain "java/lang/Comparable" (some 0) with
  accessFlags := 1537
  interfaces := #[]
  cf := some (fileOf pool3 1 #[] #[] 1537 3 #[] #[])
  fields := #[]
  methods := #[]
  instanceTypes := #[]
  staticTypes := #[]
  resolved := Array.replicate 12 none
  statics := none }

def pool4 : Array CpInfo := pool [(1, .class_ 2), (0, u "java/io/Serializable"), (0, .class_ 4), (0, u "java/lang/Object")] 2

/-- java/io/Serializable -/
def k4 : Class := { plain "java/io/Serializable" (some 0) with
  accessFlags := 1537
  interfaces := #[]
  cf := some (fileOf pool4 1 #[] #[] 1537 3 #[] #[])
  fields := #[]
  methods := #[]
  instanceTypes := #[]
  staticTypes := #[]
  resolved := Array.replicate 7 none
  statics := none }

def pool5 : Array CpInfo := pool [(2, .class_ 4), (1, u "java/lang/Enum"), (0, u "name"), (0, u "Ljava/lang/String;"), (2, u "ordinal"), (0, u "I"), (1, .class_ 14), (1, u "java/lang/Object"), (4, u "hash"), (86, .class_ 108), (1, u "java/lang/Enum$EnumDesc"), (2, .class_ 112), (0, u "java/lang/constant/Constable"), (0, .class_ 114), (0, u "java/lang/Comparable"), (0, .class_ 116), (0, u "java/io/Serializable")] 87

/-- java/lang/Enum -/
def k5 : Class := { plain "java/lang/Enum" (some 0) with
  accessFlags := 1057
  interfaces := #[2, 3, 4]
  cf := some (fileOf pool5 2 #[.nestMembers #[106]] #[] 1057 12 #[111, 113, 115] #[{ accessFlags := 18, nameIndex := 5, descriptorIndex := 6, attributes := #[] }, { accessFlags := 18, nameIndex := 9, descriptorIndex := 10, attributes := #[] }, { accessFlags := 2, nameIndex := 19, descriptorIndex := 10, attributes := #[] }])
  fields := #[{ name := "name", type := (.object "java/lang/String"), accessFlags := 18, slot := 0, constantValue := 0 }, { name := "ordinal", type := .int, accessFlags := 18, slot := 1, constantValue := 0 }, { name := "hash", type := .int, accessFlags := 2, slot := 2, constantValue := 0 }]
  methods := #[]
  instanceTypes := #[(.object "java/lang/String"), .int, .int]
  staticTypes := #[]
  resolved := Array.replicate 204 none
  statics := none }

def pool6 : Array CpInfo := pool [(1, .class_ 2), (0, u "com/example/fluss/fluss/entity/CatalogFile$Kind"), (2, u "PUBLIC"), (0, u "Lcom/example/fluss/fluss/entity/CatalogFile$Kind;"), (2, u "SYSTEM"), (2, u "REWRITE_SYSTEM"), (2, u "SYSTEM_SUFFIX"), (0, .fieldref 1 17), (0, .nameAndType 18 6), (0, u "DELEGATE_PUBLIC"), (0, .fieldref 1 20), (0, .nameAndType 21 6), (0, u "DELEGATE_SYSTEM"), (0, .fieldref 1 23), (0, .nameAndType 24 6), (0, u "NEXT_CATALOG"), (2, u "$VALUES"), (0, u "[Lcom/example/fluss/fluss/entity/CatalogFile$Kind;"), (6, .class_ 37), (1, u "java/lang/Enum"), (8, u "element"), (0, u "Ljava/lang/String;"), (2, u "match"), (2, u "target"), (13, u "()Z"), (1, .class_ 71), (1, u "com/example/fluss/fluss/entity/CatalogFile"), (57, u "namesCatalogs")] 8

def k6c0 : Code := { maxStack := 2, maxLocals := 1, code := prog_19_method_7_code, exceptionTable := #[], attributes := #[] }
def k6m0 : Method := { name := "namesCatalogs", desc := "()Z", sig := { parameters := [], returnType := some .boolean }, accessFlags := 0, code := some k6c0 }
/-- com/example/fluss/fluss/entity/CatalogFile$Kind -/
def k6 : Class := { plain "com/example/fluss/fluss/entity/CatalogFile$Kind" (some 5) with
  accessFlags := 16432
  interfaces := #[]
  cf := some (fileOf pool6 1 #[.nestHost 69] #[{ accessFlags := 0, nameIndex := 129, descriptorIndex := 67, attributes := #[] }] 16432 35 #[] #[{ accessFlags := 16409, nameIndex := 5, descriptorIndex := 6, attributes := #[] }, { accessFlags := 16409, nameIndex := 9, descriptorIndex := 6, attributes := #[] }, { accessFlags := 16409, nameIndex := 12, descriptorIndex := 6, attributes := #[] }, { accessFlags := 16409, nameIndex := 15, descriptorIndex := 6, attributes := #[] }, { accessFlags := 16409, nameIndex := 18, descriptorIndex := 6, attributes := #[] }, { accessFlags := 16409, nameIndex := 21, descriptorIndex := 6, attributes := #[] }, { accessFlags := 16409, nameIndex := 24, descriptorIndex := 6, attributes := #[] }, { accessFlags := 18, nameIndex := 46, descriptorIndex := 47, attributes := #[] }, { accessFlags := 18, nameIndex := 50, descriptorIndex := 47, attributes := #[] }, { accessFlags := 18, nameIndex := 53, descriptorIndex := 47, attributes := #[] }, { accessFlags := 4122, nameIndex := 27, descriptorIndex := 28, attributes := #[] }])
  fields := #[{ name := "PUBLIC", type := (.object "com/example/fluss/fluss/entity/CatalogFile$Kind"), accessFlags := 16409, slot := 0, constantValue := 0 }, { name := "SYSTEM", type := (.object "com/example/fluss/fluss/entity/CatalogFile$Kind"), accessFlags := 16409, slot := 1, constantValue := 0 }, { name := "REWRITE_SYSTEM", type := (.object "com/example/fluss/fluss/entity/CatalogFile$Kind"), accessFlags := 16409, slot := 2, constantValue := 0 }, { name := "SYSTEM_SUFFIX", type := (.object "com/example/fluss/fluss/entity/CatalogFile$Kind"), accessFlags := 16409, slot := 3, constantValue := 0 }, { name := "DELEGATE_PUBLIC", type := (.object "com/example/fluss/fluss/entity/CatalogFile$Kind"), accessFlags := 16409, slot := 4, constantValue := 0 }, { name := "DELEGATE_SYSTEM", type := (.object "com/example/fluss/fluss/entity/CatalogFile$Kind"), accessFlags := 16409, slot := 5, constantValue := 0 }, { name := "NEXT_CATALOG", type := (.object "com/example/fluss/fluss/entity/CatalogFile$Kind"), accessFlags := 16409, slot := 6, constantValue := 0 }, { name := "element", type := (.object "java/lang/String"), accessFlags := 18, slot := 3, constantValue := 0 }, { name := "match", type := (.object "java/lang/String"), accessFlags := 18, slot := 4, constantValue := 0 }, { name := "target", type := (.object "java/lang/String"), accessFlags := 18, slot := 5, constantValue := 0 }, { name := "$VALUES", type := (.array (.object "com/example/fluss/fluss/entity/CatalogFile$Kind")), accessFlags := 4122, slot := 7, constantValue := 0 }]
  methods := #[k6m0]
  instanceTypes := #[(.object "java/lang/String"), .int, .int, (.object "java/lang/String"), (.object "java/lang/String"), (.object "java/lang/String")]
  staticTypes := #[(.object "com/example/fluss/fluss/entity/CatalogFile$Kind"), (.object "com/example/fluss/fluss/entity/CatalogFile$Kind"), (.object "com/example/fluss/fluss/entity/CatalogFile$Kind"), (.object "com/example/fluss/fluss/entity/CatalogFile$Kind"), (.object "com/example/fluss/fluss/entity/CatalogFile$Kind"), (.object "com/example/fluss/fluss/entity/CatalogFile$Kind"), (.object "com/example/fluss/fluss/entity/CatalogFile$Kind"), (.array (.object "com/example/fluss/fluss/entity/CatalogFile$Kind"))]
  resolved := Array.replicate 138 none
  statics := some 0 }

def pool7 : Array CpInfo := pool [(1, u "java/lang/Cloneable"), (0, .class_ 1), (0, u "java/lang/Object"), (0, .class_ 3)] 3

/-- java/lang/Cloneable -/
def k7 : Class := { plain "java/lang/Cloneable" (some 0) with
  accessFlags := 1537
  interfaces := #[]
  cf := some (fileOf pool7 2 #[] #[] 1537 4 #[] #[])
  fields := #[]
  methods := #[]
  instanceTypes := #[]
  staticTypes := #[]
  resolved := Array.replicate 8 none
  statics := none }

/-- the primitive byte -/
def k8 : Class := { plain "byte" none with kind := .primitive 'B', accessFlags := 0x411 }
/-- [B -/
def k9 : Class := { plain "[B" (some 0) with kind := .array 8 .byte, interfaces := #[7, 4], accessFlags := 1041 }

/-- the primitive int -/
def k10 : Class := { plain "int" none with kind := .primitive 'I', accessFlags := 0x411 }
/-- [I -/
def k11 : Class := { plain "[I" (some 0) with kind := .array 10 .int, interfaces := #[7, 4], accessFlags := 1041 }

def heap : Heap := #[{ cls := 6, slots := #[.ref 1, .ref 2, .ref 3, .ref 4, .ref 5, .ref 6, .ref 7, .null], vm := .statics 6 },
  { cls := 6, slots := #[.null, .int 0, .int 0, .null, .null, .null], vm := .none },
  { cls := 6, slots := #[.null, .int 1, .int 0, .null, .null, .null], vm := .none },
  { cls := 6, slots := #[.null, .int 2, .int 0, .null, .null, .null], vm := .none },
  { cls := 6, slots := #[.null, .int 3, .int 0, .null, .null, .null], vm := .none },
  { cls := 6, slots := #[.null, .int 4, .int 0, .null, .null, .null], vm := .none },
  { cls := 6, slots := #[.null, .int 5, .int 0, .null, .null, .null], vm := .none },
  { cls := 6, slots := #[.null, .int 6, .int 0, .null, .null, .null], vm := .none }]
def classes : Array Class := #[k0, k1, k2, k3, k4, k5, k6, k7, k8, k9, k10, k11]
def interned : List (Array UInt16 × Addr) := []
def slotsUsed : Nat := 50
def theMethod : MethodId := ⟨1, 3⟩
def args0 : Array Value := #[.int 5]
def aboutOver (below : List Frame) : State where
  vm := { classes := classes, interned := interned.toArray }
  heap := heap
  slotsUsed := slotsUsed
  threads := #[{ frames := .invoking theMethod args0 :: below }]
def below0 : List Frame := [.native { method := ⟨0, 0⟩, args := #[] }]
def about1 : State := aboutOver below0
def p0 : Program := .bare "" "" ""
def e0 : Env := launch0.env 0 0 0
theorem w_frames : about1.frames = Frame.invoking theMethod args0 :: below0 := rfl
set_option maxRecDepth 65536 in
theorem w_args : argsFit about1.vm theMethod args0 = true := by decide +kernel
set_option maxRecDepth 65536 in
theorem w_heap : heapFits about1 = true := by decide +kernel
set_option maxRecDepth 65536 in
theorem w_runnable : about1.curStatus? = some .runnable := by decide +kernel
set_option maxRecDepth 65536 in
theorem w_alone : about1.alone = true := by decide +kernel
set_option maxRecDepth 65536 in
theorem w_named : about1.methodNamed? x = some theMethod := by decide +kernel
set_option maxRecDepth 65536 in
theorem w_hears : about1.hears theMethod below0 = true := by decide +kernel
set_option maxRecDepth 65536 in
theorem w_ripe : about1.ripe theMethod args0 below0 = true := by decide +kernel
theorem w_running : about1.status = .running := rfl
set_option maxRecDepth 65536 in
theorem w_room : about1.hasRoom e0.platform room_1 = true :=
  launch0.hasRoom_least _ room_1 (by decide +kernel) (by decide +kernel) (by decide +kernel) (by decide +kernel) (by decide +kernel) (by decide +kernel)
theorem allAtoms_all (ts : List Jvm.Cond) (a : Array Jvm.Value) (st : Jvm.State) : (allAtoms ts).before a st = ts.all (fun c => c.before a st) := by
  induction ts with
  | nil => rfl
  | cons c t ih =>
    show (Jvm.Cond.and c (allAtoms t)).before a st = _
    rw [Jvm.Cond.before_and, ih, List.all_cons]
def words1 : List Jvm.Cond := Jvm.Cond.code x code maxLocals ret :: tables_1
/-- a 'code' word, met by the world's own term for the bytes: nothing is compared byte by byte -/
theorem code_word {y : MethodName} {bytes : ByteArray} {mx : Nat} {rt : Option FieldType} {a : Array Value} {s : State} {m : MethodId} {meth : Method} {c : Code} (h1 : s.methodNamed? y = some m) (h2 : s.vm.method? m = some meth) (h3 : meth.code = some c) (h4 : c.code = bytes)
    (h5 : (c.maxLocals == mx && c.exceptionTable.isEmpty && decide (c.maxStack ≤ mostOperands) && decide (meth.sig.returnType = rt) && !meth.locks && decide (parseMethodDescriptor y.desc = some meth.sig)) = true) : (Jvm.Cond.code y bytes mx rt).before a s = true := by
  simp only [Bool.and_eq_true, beq_iff_eq, Bool.not_eq_true', decide_eq_true_eq] at h5
  obtain ⟨⟨⟨⟨⟨g1, g2⟩, g3⟩, g4⟩, g5⟩, g6⟩ := h5
  simp [Cond.before, Cond.holds, Cond.value, h1, h2, h3, h4, g1, g2, g3, g4, g5, g6]
def isCode : Jvm.Cond → Bool
  | .code _ _ _ _ => true
  | _ => false
theorem all_split {L : List Jvm.Cond} {P : Jvm.Cond → Bool} (h1 : L.all (fun c => isCode c || P c) = true) (h2 : ∀ c ∈ L.filter isCode, P c = true) : L.all P = true := by
  refine List.all_eq_true.mpr fun c hc => ?_
  have h := List.all_eq_true.mp h1 c hc
  rcases Bool.eq_false_or_eq_true (isCode c) with hi | hi
  · exact h2 c (List.mem_filter.mpr ⟨hc, hi⟩)
  · simpa [hi] using h
set_option maxRecDepth 65536 in
theorem w_c0 : (Jvm.Cond.code x code maxLocals ret).before args0 about1 = true := code_word (m := ⟨1, 3⟩) (meth := k1m3) (c := k1c3) (by decide +kernel) rfl rfl rfl (by decide +kernel)
set_option maxRecDepth 65536 in
theorem w_c1 : (Jvm.Cond.code ({ cls := "com/example/fluss/fluss/entity/KindNamesCatalogsPinLaw", name := "pick", desc := "(I)Lcom/example/fluss/fluss/entity/CatalogFile$Kind;" } : Jvm.MethodName) method_2_code (1 : Nat) (Option.some (Jvm.ClassFile.FieldType.object "com/example/fluss/fluss/entity/CatalogFile$Kind"))).before args0 about1 = true := code_word (m := ⟨1, 1⟩) (meth := k1m1) (c := k1c1) (by decide +kernel) rfl rfl rfl (by decide +kernel)
set_option maxRecDepth 65536 in
theorem w_c2 : (Jvm.Cond.code ({ cls := "com/example/fluss/fluss/entity/CatalogFile$Kind", name := "namesCatalogs", desc := "()Z" } : Jvm.MethodName) prog_19_method_7_code (1 : Nat) (Option.some Jvm.ClassFile.FieldType.boolean)).before args0 about1 = true := code_word (m := ⟨6, 0⟩) (meth := k6m0) (c := k6c0) (by decide +kernel) rfl rfl rfl (by decide +kernel)
set_option maxRecDepth 65536 in
theorem w_c3 : (Jvm.Cond.code ({ cls := "com/example/fluss/fluss/entity/KindNamesCatalogsPinLaw", name := "leadsToCatalogs", desc := "(I)Z" } : Jvm.MethodName) method_3_code (1 : Nat) (Option.some Jvm.ClassFile.FieldType.boolean)).before args0 about1 = true := code_word (m := ⟨1, 2⟩) (meth := k1m2) (c := k1c2) (by decide +kernel) rfl rfl rfl (by decide +kernel)
def codes1 : List Jvm.Cond := [Jvm.Cond.code x code maxLocals ret, Jvm.Cond.code ({ cls := "com/example/fluss/fluss/entity/KindNamesCatalogsPinLaw", name := "pick", desc := "(I)Lcom/example/fluss/fluss/entity/CatalogFile$Kind;" } : Jvm.MethodName) method_2_code (1 : Nat) (Option.some (Jvm.ClassFile.FieldType.object "com/example/fluss/fluss/entity/CatalogFile$Kind")), Jvm.Cond.code ({ cls := "com/example/fluss/fluss/entity/CatalogFile$Kind", name := "namesCatalogs", desc := "()Z" } : Jvm.MethodName) prog_19_method_7_code (1 : Nat) (Option.some Jvm.ClassFile.FieldType.boolean), Jvm.Cond.code ({ cls := "com/example/fluss/fluss/entity/KindNamesCatalogsPinLaw", name := "leadsToCatalogs", desc := "(I)Z" } : Jvm.MethodName) method_3_code (1 : Nat) (Option.some Jvm.ClassFile.FieldType.boolean)]
set_option maxRecDepth 65536 in
theorem codes_eq : words1.filter isCode = codes1 := rfl
theorem w_codes : ∀ c ∈ words1.filter isCode, c.before args0 about1 = true := by
  rw [codes_eq]
  intro c hc
  simp only [codes1, List.mem_cons, List.not_mem_nil, or_false] at hc
  rcases hc with rfl | rfl | rfl | rfl
  · exact w_c0
  · exact w_c1
  · exact w_c2
  · exact w_c3
set_option maxRecDepth 65536 in
theorem w_t1 : (words1.take 24).all (fun c => isCode c || c.before args0 about1) = true := by decide +kernel
set_option maxRecDepth 65536 in
theorem w_t2 : (words1.drop 24).all (fun c => isCode c || c.before args0 about1) = true := by decide +kernel
theorem w_tables : (allAtoms (Jvm.Cond.code x code maxLocals ret :: tables_1)).before args0 about1 = true := by
  rw [allAtoms_all]
  show words1.all (fun c => c.before args0 about1) = true
  refine all_split ?_ w_codes
  rw [← List.take_append_drop 24 words1, List.all_append, w_t1, w_t2]
  rfl
set_option maxRecDepth 65536 in
theorem w_case : (Jvm.Cond.and given_1 narrow_1).before args0 about1 = true := by decide +kernel
theorem w_applies : (headSpec (Jvm.Cond.code x code maxLocals ret :: tables_1) room_1).applies x e0.platform about1 = true :=
  (Spec.applies_iff w_frames).mpr ⟨w_running, w_runnable, w_alone, w_named, w_hears, w_ripe, w_room, w_tables⟩
theorem atStart : AtStart classFile x code maxLocals ret World_1 tables_1 room_1 Calls_1 rest_1 Pre_1 launch0 p0 e0 about1 theMethod args0 below0 :=
  ⟨lists_1, trivial, launch0.admits_env _ _ _, launch0.least_env, fairChoices_fair.cas, fairChoices_fair.clock, w_frames, w_args, w_heap, w_applies, trivial, trivial, w_case⟩
end start1
theorem witness_1 : WitnessClaimed_1 := ⟨start1.p0, start1.e0, start1.about1, start1.theMethod, start1.args0, start1.below0, start1.atStart⟩
end Jvm.Pilot.@@N@@
