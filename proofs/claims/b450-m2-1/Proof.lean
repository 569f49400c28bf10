import JvmDerived
import JvmDerived.Pilot.@@N@@Statement
import JvmDerived.Pilot.@@N@@Code
set_option linter.unusedVariables false
set_option linter.unusedSimpArgs false
namespace Jvm.Pilot.@@N@@
open Jvm Jvm.ClassFile Sem Op Lib Jvm.Free Jvm.Stand Jvm.LawKit Jvm.RoadKit Bundle Jvm.Pilot.@@N@@.Jvm.D
theorem own_sz {Z : State} {n0 : Nat} {h : Heap} (O : Old Z n0 h) : n0 ≤ h.size := O.1 ▸ O.2.1
theorem own_sta {args : Array Value} {s : State} {C n d K : String} (h : (Jvm.Cond.exactly (.static C n d) K).value args s none s [] = some true) (hi : (Jvm.Cond.initialized C).before args s = true) (hl : (Jvm.Cond.laysStatic C n d).before args s = true) :
    ∃ a, Sta s s.heap C n d (.ref a) ∧ Exa s s.heap a K ∧ (Term.static C n d).eval args s none [] s = some (.ref a) := by
  obtain ⟨a, ev⟩ := exa_v h
  exact ⟨a, Sta.start ev (Or.inr ⟨hi, hl⟩), Exa.start ev h, ev⟩
theorem own_fint {args : Array Value} {s : State} {t : Term} {a : Addr} {C n d : String} {k : Int32} (ev : t.eval args s none [] s = some (.ref a)) (h : (Jvm.Cond.eq (.field t C n d) (.int k)).value args s none s [] = some true) : Fld s s.heap a C n d (.int k) := by
  obtain ⟨x, y, h1, h2, -, -⟩ := cmp_v (Or.inl h)
  cases h2.symm.trans (Term.int_eval k)
  have h3 := h1
  rw [fld_at ev] at h3
  have : x = .int k := by
    cases x <;> simp_all [Cond.value, Term.eval]
  subst this
  exact Fld.start h3
theorem own_fnull {args : Array Value} {s : State} {t : Term} {a : Addr} {C n d : String} (ev : t.eval args s none [] s = some (.ref a)) (h : (Jvm.Cond.eq (.field t C n d) .null).value args s none s [] = some true) : Fld s s.heap a C n d .null := by
  have h1 := null_v h
  rw [fld_at ev] at h1
  exact Fld.start h1
theorem own_fexa {args : Array Value} {s : State} {t : Term} {a : Addr} {C n d K : String} (ev : t.eval args s none [] s = some (.ref a)) (h : (Jvm.Cond.exactly (.field t C n d) K).value args s none s [] = some true) :
    ∃ b, Fld s s.heap a C n d (.ref b) ∧ Exa s s.heap b K ∧ (Term.field t C n d).eval args s none [] s = some (.ref b) := by
  obtain ⟨b, e2⟩ := exa_v h
  have h1 := e2
  rw [fld_at ev] at h1
  exact ⟨b, Fld.start h1, Exa.start e2 h, e2⟩
theorem own_freq {args : Array Value} {s : State} {t u : Term} {a b : Addr} {C n d : String} (ev : t.eval args s none [] s = some (.ref a)) (eu : u.eval args s none [] s = some (.ref b)) (h : (Jvm.Cond.eq (.field t C n d) u).value args s none s [] = some true) : Fld s s.heap a C n d (.ref b) := by
  obtain ⟨x, y, h1, h2, -, -⟩ := cmp_v (Or.inl h)
  cases h2.symm.trans eu
  have h3 := h1
  rw [fld_at ev] at h3
  have : x = .ref b := by
    cases x <;> simp_all [Cond.value]
  subst this
  exact Fld.start h3
theorem own_nn {v : Value} {a : Addr} (h : v = .ref a) : ¬ v = Value.null := by rw [h]; exact nofun
theorem own_nref {n : String} {v : Value} (h : v.isRef = true) : narrow (.object n) v = v := by rcases ref_cases h with rfl | ⟨_, rfl⟩ <;> rfl
theorem own_fref {n : String} {v : Value} (h : v.isRef = true) : fits (.object n) v = true := by rcases ref_cases h with rfl | ⟨_, rfl⟩ <;> rfl
theorem own_nb {z : Int32} (h : z = 0 ∨ z = 1) : narrow .boolean (.int z) = .int z := by rcases h with rfl | rfl <;> rfl
theorem ow0 {a0 : Array Value} {Z : State} (hw : ∀ d ∈ tables_1, d.before a0 Z = true) : (Jvm.Cond.constant "com/example/verdictd/verdictd/NamespaceHoldsAttributesPinLaw" (31 : Nat) (2147483647 : Int32)).before a0 Z = true := hw _ (List.mem_of_getElem? (i := 0) rfl)
theorem ow1 {a0 : Array Value} {Z : State} (hw : ∀ d ∈ tables_1, d.before a0 Z = true) : (Jvm.Cond.methodLink "com/example/verdictd/verdictd/NamespaceHoldsAttributesPinLaw" (32 : Nat) ({ cls := "com/example/verdictd/verdictd/NamespaceHoldsAttributesPinLaw", name := "pick", desc := "(I)Lcom/example/verdictd/verdictd/Namespace;" } : Jvm.MethodName)).before a0 Z = true := hw _ (List.mem_of_getElem? (i := 1) rfl)
theorem ow2 {a0 : Array Value} {Z : State} (hw : ∀ d ∈ tables_1, d.before a0 Z = true) : (Jvm.Cond.static ({ cls := "com/example/verdictd/verdictd/NamespaceHoldsAttributesPinLaw", name := "pick", desc := "(I)Lcom/example/verdictd/verdictd/Namespace;" } : Jvm.MethodName)).before a0 Z = true := hw _ (List.mem_of_getElem? (i := 2) rfl)
theorem ow3 {a0 : Array Value} {Z : State} (hw : ∀ d ∈ tables_1, d.before a0 Z = true) : (Jvm.Cond.initialized "com/example/verdictd/verdictd/NamespaceHoldsAttributesPinLaw").before a0 Z = true := hw _ (List.mem_of_getElem? (i := 3) rfl)
theorem ow4 {a0 : Array Value} {Z : State} (hw : ∀ d ∈ tables_1, d.before a0 Z = true) : (Jvm.Cond.code ({ cls := "com/example/verdictd/verdictd/NamespaceHoldsAttributesPinLaw", name := "pick", desc := "(I)Lcom/example/verdictd/verdictd/Namespace;" } : Jvm.MethodName) method_2_code (1 : Nat) (Option.some (Jvm.ClassFile.FieldType.object "com/example/verdictd/verdictd/Namespace"))).before a0 Z = true := hw _ (List.mem_of_getElem? (i := 4) rfl)
theorem ow5 {a0 : Array Value} {Z : State} (hw : ∀ d ∈ tables_1, d.before a0 Z = true) : (Jvm.Cond.fieldLink "com/example/verdictd/verdictd/NamespaceHoldsAttributesPinLaw" (7 : Nat) "com/example/verdictd/verdictd/Namespace" "SUBJECT" "Lcom/example/verdictd/verdictd/Namespace;").before a0 Z = true := hw _ (List.mem_of_getElem? (i := 5) rfl)
theorem ow6 {a0 : Array Value} {Z : State} (hw : ∀ d ∈ tables_1, d.before a0 Z = true) : (Jvm.Cond.initialized "com/example/verdictd/verdictd/Namespace").before a0 Z = true := hw _ (List.mem_of_getElem? (i := 6) rfl)
theorem ow7 {a0 : Array Value} {Z : State} (hw : ∀ d ∈ tables_1, d.before a0 Z = true) : (Jvm.Cond.laysStatic "com/example/verdictd/verdictd/Namespace" "SUBJECT" "Lcom/example/verdictd/verdictd/Namespace;").before a0 Z = true := hw _ (List.mem_of_getElem? (i := 7) rfl)
theorem ow8 {a0 : Array Value} {Z : State} (hw : ∀ d ∈ tables_1, d.before a0 Z = true) : (Jvm.Cond.methodLink "com/example/verdictd/verdictd/NamespaceHoldsAttributesPinLaw" (38 : Nat) ({ cls := "com/example/verdictd/verdictd/Namespace", name := "holdsAttributes", desc := "()Z" } : Jvm.MethodName)).before a0 Z = true := hw _ (List.mem_of_getElem? (i := 8) rfl)
theorem ow9 {a0 : Array Value} {Z : State} (hw : ∀ d ∈ tables_1, d.before a0 Z = true) : (Jvm.Cond.declares ({ cls := "com/example/verdictd/verdictd/Namespace", name := "holdsAttributes", desc := "()Z" } : Jvm.MethodName)).before a0 Z = true := hw _ (List.mem_of_getElem? (i := 9) rfl)
theorem ow10 {a0 : Array Value} {Z : State} (hw : ∀ d ∈ tables_1, d.before a0 Z = true) : (Jvm.Cond.instanceMethod ({ cls := "com/example/verdictd/verdictd/Namespace", name := "holdsAttributes", desc := "()Z" } : Jvm.MethodName)).before a0 Z = true := hw _ (List.mem_of_getElem? (i := 10) rfl)
theorem ow11 {a0 : Array Value} {Z : State} (hw : ∀ d ∈ tables_1, d.before a0 Z = true) : (Jvm.Cond.selects "com/example/verdictd/verdictd/Namespace" ({ cls := "com/example/verdictd/verdictd/Namespace", name := "holdsAttributes", desc := "()Z" } : Jvm.MethodName) ({ cls := "com/example/verdictd/verdictd/Namespace", name := "holdsAttributes", desc := "()Z" } : Jvm.MethodName)).before a0 Z = true := hw _ (List.mem_of_getElem? (i := 11) rfl)
theorem ow12 {a0 : Array Value} {Z : State} (hw : ∀ d ∈ tables_1, d.before a0 Z = true) : (Jvm.Cond.code ({ cls := "com/example/verdictd/verdictd/Namespace", name := "holdsAttributes", desc := "()Z" } : Jvm.MethodName) prog_19_method_9_code (1 : Nat) (Option.some Jvm.ClassFile.FieldType.boolean)).before a0 Z = true := hw _ (List.mem_of_getElem? (i := 12) rfl)
theorem ow13 {a0 : Array Value} {Z : State} (hw : ∀ d ∈ tables_1, d.before a0 Z = true) : (Jvm.Cond.fieldLink "com/example/verdictd/verdictd/Namespace" (48 : Nat) "com/example/verdictd/verdictd/Namespace" "collection" "Ljava/lang/String;").before a0 Z = true := hw _ (List.mem_of_getElem? (i := 13) rfl)
theorem ow15 {a0 : Array Value} {Z : State} (hw : ∀ d ∈ tables_1, d.before a0 Z = true) : (Jvm.Cond.methodLink "com/example/verdictd/verdictd/NamespaceHoldsAttributesPinLaw" (42 : Nat) ({ cls := "com/example/verdictd/verdictd/Namespace", name := "collection", desc := "()Ljava/lang/String;" } : Jvm.MethodName)).before a0 Z = true := hw _ (List.mem_of_getElem? (i := 15) rfl)
theorem ow16 {a0 : Array Value} {Z : State} (hw : ∀ d ∈ tables_1, d.before a0 Z = true) : (Jvm.Cond.declares ({ cls := "com/example/verdictd/verdictd/Namespace", name := "collection", desc := "()Ljava/lang/String;" } : Jvm.MethodName)).before a0 Z = true := hw _ (List.mem_of_getElem? (i := 16) rfl)
theorem ow17 {a0 : Array Value} {Z : State} (hw : ∀ d ∈ tables_1, d.before a0 Z = true) : (Jvm.Cond.instanceMethod ({ cls := "com/example/verdictd/verdictd/Namespace", name := "collection", desc := "()Ljava/lang/String;" } : Jvm.MethodName)).before a0 Z = true := hw _ (List.mem_of_getElem? (i := 17) rfl)
theorem ow18 {a0 : Array Value} {Z : State} (hw : ∀ d ∈ tables_1, d.before a0 Z = true) : (Jvm.Cond.selects "com/example/verdictd/verdictd/Namespace" ({ cls := "com/example/verdictd/verdictd/Namespace", name := "collection", desc := "()Ljava/lang/String;" } : Jvm.MethodName) ({ cls := "com/example/verdictd/verdictd/Namespace", name := "collection", desc := "()Ljava/lang/String;" } : Jvm.MethodName)).before a0 Z = true := hw _ (List.mem_of_getElem? (i := 18) rfl)
theorem ow19 {a0 : Array Value} {Z : State} (hw : ∀ d ∈ tables_1, d.before a0 Z = true) : (Jvm.Cond.code ({ cls := "com/example/verdictd/verdictd/Namespace", name := "collection", desc := "()Ljava/lang/String;" } : Jvm.MethodName) prog_19_method_8_code (1 : Nat) (Option.some (Jvm.ClassFile.FieldType.object "java/lang/String"))).before a0 Z = true := hw _ (List.mem_of_getElem? (i := 19) rfl)
theorem ow20 {a0 : Array Value} {Z : State} (hw : ∀ d ∈ tables_1, d.before a0 Z = true) : (Jvm.Cond.fieldLink "com/example/verdictd/verdictd/NamespaceHoldsAttributesPinLaw" (19 : Nat) "com/example/verdictd/verdictd/Namespace" "EVENT" "Lcom/example/verdictd/verdictd/Namespace;").before a0 Z = true := hw _ (List.mem_of_getElem? (i := 20) rfl)
theorem ow21 {a0 : Array Value} {Z : State} (hw : ∀ d ∈ tables_1, d.before a0 Z = true) : (Jvm.Cond.laysStatic "com/example/verdictd/verdictd/Namespace" "EVENT" "Lcom/example/verdictd/verdictd/Namespace;").before a0 Z = true := hw _ (List.mem_of_getElem? (i := 21) rfl)
theorem ow22 {a0 : Array Value} {Z : State} (hw : ∀ d ∈ tables_1, d.before a0 Z = true) : (Jvm.Cond.fieldLink "com/example/verdictd/verdictd/NamespaceHoldsAttributesPinLaw" (25 : Nat) "com/example/verdictd/verdictd/Namespace" "VAR" "Lcom/example/verdictd/verdictd/Namespace;").before a0 Z = true := hw _ (List.mem_of_getElem? (i := 22) rfl)
theorem ow23 {a0 : Array Value} {Z : State} (hw : ∀ d ∈ tables_1, d.before a0 Z = true) : (Jvm.Cond.laysStatic "com/example/verdictd/verdictd/Namespace" "VAR" "Lcom/example/verdictd/verdictd/Namespace;").before a0 Z = true := hw _ (List.mem_of_getElem? (i := 23) rfl)
theorem ow24 {a0 : Array Value} {Z : State} (hw : ∀ d ∈ tables_1, d.before a0 Z = true) : (Jvm.Cond.fieldLink "com/example/verdictd/verdictd/NamespaceHoldsAttributesPinLaw" (28 : Nat) "com/example/verdictd/verdictd/Namespace" "BIND" "Lcom/example/verdictd/verdictd/Namespace;").before a0 Z = true := hw _ (List.mem_of_getElem? (i := 24) rfl)
theorem ow25 {a0 : Array Value} {Z : State} (hw : ∀ d ∈ tables_1, d.before a0 Z = true) : (Jvm.Cond.laysStatic "com/example/verdictd/verdictd/Namespace" "BIND" "Lcom/example/verdictd/verdictd/Namespace;").before a0 Z = true := hw _ (List.mem_of_getElem? (i := 25) rfl)
theorem ow26 {a0 : Array Value} {Z : State} (hw : ∀ d ∈ tables_1, d.before a0 Z = true) : (Jvm.Cond.fieldLink "com/example/verdictd/verdictd/NamespaceHoldsAttributesPinLaw" (22 : Nat) "com/example/verdictd/verdictd/Namespace" "ENV" "Lcom/example/verdictd/verdictd/Namespace;").before a0 Z = true := hw _ (List.mem_of_getElem? (i := 26) rfl)
theorem ow27 {a0 : Array Value} {Z : State} (hw : ∀ d ∈ tables_1, d.before a0 Z = true) : (Jvm.Cond.laysStatic "com/example/verdictd/verdictd/Namespace" "ENV" "Lcom/example/verdictd/verdictd/Namespace;").before a0 Z = true := hw _ (List.mem_of_getElem? (i := 27) rfl)
theorem ow28 {a0 : Array Value} {Z : State} (hw : ∀ d ∈ tables_1, d.before a0 Z = true) : (Jvm.Cond.fieldLink "com/example/verdictd/verdictd/NamespaceHoldsAttributesPinLaw" (16 : Nat) "com/example/verdictd/verdictd/Namespace" "RESOURCE" "Lcom/example/verdictd/verdictd/Namespace;").before a0 Z = true := hw _ (List.mem_of_getElem? (i := 28) rfl)
theorem ow29 {a0 : Array Value} {Z : State} (hw : ∀ d ∈ tables_1, d.before a0 Z = true) : (Jvm.Cond.laysStatic "com/example/verdictd/verdictd/Namespace" "RESOURCE" "Lcom/example/verdictd/verdictd/Namespace;").before a0 Z = true := hw _ (List.mem_of_getElem? (i := 29) rfl)
theorem ow30 {a0 : Array Value} {Z : State} (hw : ∀ d ∈ tables_1, d.before a0 Z = true) : (Jvm.Cond.fieldLink "com/example/verdictd/verdictd/NamespaceHoldsAttributesPinLaw" (13 : Nat) "com/example/verdictd/verdictd/Namespace" "ORG" "Lcom/example/verdictd/verdictd/Namespace;").before a0 Z = true := hw _ (List.mem_of_getElem? (i := 30) rfl)
theorem ow31 {a0 : Array Value} {Z : State} (hw : ∀ d ∈ tables_1, d.before a0 Z = true) : (Jvm.Cond.laysStatic "com/example/verdictd/verdictd/Namespace" "ORG" "Lcom/example/verdictd/verdictd/Namespace;").before a0 Z = true := hw _ (List.mem_of_getElem? (i := 31) rfl)
theorem pd0 : parseMethodDescriptor "(I)Lcom/example/verdictd/verdictd/Namespace;" = some ⟨[.int], some (.object "com/example/verdictd/verdictd/Namespace")⟩ := by decide +kernel
theorem pd1 : parseMethodDescriptor "()Z" = some ⟨[], some .boolean⟩ := by decide +kernel
theorem pd2 : parseMethodDescriptor "()Ljava/lang/String;" = some ⟨[], some (.object "java/lang/String")⟩ := by decide +kernel
theorem pn0 : plainName "com/example/verdictd/verdictd/NamespaceHoldsAttributesPinLaw" = true := by first | (simp [plainName, overriddenIn]; done) | decide +kernel
theorem pn1 : plainName "com/example/verdictd/verdictd/Namespace" = true := by first | (simp [plainName, overriddenIn]; done) | decide +kernel
def pk {α : Type} (k : Int32) (w0 w1 w2 w3 w4 w5 w6 : α) : α := if k = 0 then w0 else if k = 1 then w1 else if k = 2 then w2 else if k = 3 then w3 else if k = 4 then w4 else if k = 5 then w5 else w6
theorem own_pkE {Z : State} {C : String} (k : Int32) {w0 w1 w2 w3 w4 w5 w6 : Addr} (E0 : Exa Z Z.heap w0 C) (E1 : Exa Z Z.heap w1 C) (E2 : Exa Z Z.heap w2 C) (E3 : Exa Z Z.heap w3 C) (E4 : Exa Z Z.heap w4 C) (E5 : Exa Z Z.heap w5 C) (E6 : Exa Z Z.heap w6 C) : Exa Z Z.heap (pk k w0 w1 w2 w3 w4 w5 w6) C := by
  unfold pk
  split; · exact E0
  split; · exact E1
  split; · exact E2
  split; · exact E3
  split; · exact E4
  split; · exact E5
  exact E6
theorem own_pkF {Z : State} {C n d : String} (k : Int32) {w0 w1 w2 w3 w4 w5 w6 : Addr} {v0 v1 v2 v3 v4 v5 v6 : Value} (E0 : Fld Z Z.heap w0 C n d v0) (E1 : Fld Z Z.heap w1 C n d v1) (E2 : Fld Z Z.heap w2 C n d v2) (E3 : Fld Z Z.heap w3 C n d v3) (E4 : Fld Z Z.heap w4 C n d v4) (E5 : Fld Z Z.heap w5 C n d v5) (E6 : Fld Z Z.heap w6 C n d v6) : Fld Z Z.heap (pk k w0 w1 w2 w3 w4 w5 w6) C n d (pk k v0 v1 v2 v3 v4 v5 v6) := by
  unfold pk
  split; · exact E0
  split; · exact E1
  split; · exact E2
  split; · exact E3
  split; · exact E4
  split; · exact E5
  exact E6
theorem own_pkr (k : Int32) (w0 w1 w2 w3 w4 w5 w6 : Addr) : pk k (Value.ref w0) (Value.ref w1) (Value.ref w2) (Value.ref w3) (Value.ref w4) (Value.ref w5) (Value.ref w6) = .ref (pk k w0 w1 w2 w3 w4 w5 w6) := by
  unfold pk
  repeat' split
  all_goals rfl
theorem own_mod7 {x i : Int32} (h : i = (x &&& (2147483647 : Int32)) % (7 : Int32)) : i = 0 ∨ i = 1 ∨ i = 2 ∨ i = 3 ∨ i = 4 ∨ i = 5 ∨ i = 6 := by
  have h1 := c_mask x 2147483647 31 (by decide) (by decide)
  have h2 := (c_irem (x &&& 2147483647) 7 7 rfl).1 (by omega)
  rw [← h] at h2
  have h3 : i.toInt = 0 ∨ i.toInt = 1 ∨ i.toInt = 2 ∨ i.toInt = 3 ∨ i.toInt = 4 ∨ i.toInt = 5 ∨ i.toInt = 6 := by omega
  rcases h3 with h | h | h | h | h | h | h
  · exact Or.inl (Int32.toInt_inj.mp h)
  · exact Or.inr (Or.inl (Int32.toInt_inj.mp h))
  · exact Or.inr (Or.inr (Or.inl (Int32.toInt_inj.mp h)))
  · exact Or.inr (Or.inr (Or.inr (Or.inl (Int32.toInt_inj.mp h))))
  · exact Or.inr (Or.inr (Or.inr (Or.inr (Or.inl (Int32.toInt_inj.mp h)))))
  · exact Or.inr (Or.inr (Or.inr (Or.inr (Or.inr (Or.inl (Int32.toInt_inj.mp h))))))
  · exact Or.inr (Or.inr (Or.inr (Or.inr (Or.inr (Or.inr (Int32.toInt_inj.mp h))))))
def ha (cv : Value) : Int32 := if cv = Value.null then 0 else 1
theorem d_method_2_code_0 : decode method_2_code 0 = .ok (.iload_n 0, 1) := by decide +kernel
theorem d_method_2_code_1 : decode method_2_code 1 = .ok (.ifCond .ne 7, 3) := by decide +kernel
theorem d_method_2_code_4 : decode method_2_code 4 = .ok (.getstatic 7, 3) := by decide +kernel
theorem d_method_2_code_7 : decode method_2_code 7 = .ok (.areturn, 1) := by decide +kernel
theorem d_method_2_code_8 : decode method_2_code 8 = .ok (.iload_n 0, 1) := by decide +kernel
theorem d_method_2_code_9 : decode method_2_code 9 = .ok (.iconst 1, 1) := by decide +kernel
theorem d_method_2_code_10 : decode method_2_code 10 = .ok (.if_icmp .ne 7, 3) := by decide +kernel
theorem d_method_2_code_13 : decode method_2_code 13 = .ok (.getstatic 13, 3) := by decide +kernel
theorem d_method_2_code_16 : decode method_2_code 16 = .ok (.areturn, 1) := by decide +kernel
theorem d_method_2_code_17 : decode method_2_code 17 = .ok (.iload_n 0, 1) := by decide +kernel
theorem d_method_2_code_18 : decode method_2_code 18 = .ok (.iconst 2, 1) := by decide +kernel
theorem d_method_2_code_19 : decode method_2_code 19 = .ok (.if_icmp .ne 7, 3) := by decide +kernel
theorem d_method_2_code_22 : decode method_2_code 22 = .ok (.getstatic 16, 3) := by decide +kernel
theorem d_method_2_code_25 : decode method_2_code 25 = .ok (.areturn, 1) := by decide +kernel
theorem d_method_2_code_26 : decode method_2_code 26 = .ok (.iload_n 0, 1) := by decide +kernel
theorem d_method_2_code_27 : decode method_2_code 27 = .ok (.iconst 3, 1) := by decide +kernel
theorem d_method_2_code_28 : decode method_2_code 28 = .ok (.if_icmp .ne 7, 3) := by decide +kernel
theorem d_method_2_code_31 : decode method_2_code 31 = .ok (.getstatic 19, 3) := by decide +kernel
theorem d_method_2_code_34 : decode method_2_code 34 = .ok (.areturn, 1) := by decide +kernel
theorem d_method_2_code_35 : decode method_2_code 35 = .ok (.iload_n 0, 1) := by decide +kernel
theorem d_method_2_code_36 : decode method_2_code 36 = .ok (.iconst 4, 1) := by decide +kernel
theorem d_method_2_code_37 : decode method_2_code 37 = .ok (.if_icmp .ne 7, 3) := by decide +kernel
theorem d_method_2_code_40 : decode method_2_code 40 = .ok (.getstatic 22, 3) := by decide +kernel
theorem d_method_2_code_43 : decode method_2_code 43 = .ok (.areturn, 1) := by decide +kernel
theorem d_method_2_code_44 : decode method_2_code 44 = .ok (.iload_n 0, 1) := by decide +kernel
theorem d_method_2_code_45 : decode method_2_code 45 = .ok (.iconst 5, 1) := by decide +kernel
theorem d_method_2_code_46 : decode method_2_code 46 = .ok (.if_icmp .ne 7, 3) := by decide +kernel
theorem d_method_2_code_49 : decode method_2_code 49 = .ok (.getstatic 25, 3) := by decide +kernel
theorem d_method_2_code_52 : decode method_2_code 52 = .ok (.areturn, 1) := by decide +kernel
theorem d_method_2_code_53 : decode method_2_code 53 = .ok (.getstatic 28, 3) := by decide +kernel
theorem d_method_2_code_56 : decode method_2_code 56 = .ok (.areturn, 1) := by decide +kernel
def Q_rmpick (Z : State) (k : Int32) (w_SUBJECT : Addr) (w_ORG : Addr) (w_RESOURCE : Addr) (w_EVENT : Addr) (w_ENV : Addr) (w_VAR : Addr) (w_BIND : Addr) (h0 : Heap) (n0 : Nat) (v : Option Value) (h : Heap) (L : List Loc) : Prop := v = some (.ref (pk k w_SUBJECT w_ORG w_RESOURCE w_EVENT w_ENV w_VAR w_BIND)) ∧ Fr n0 L ∧ h = h0
theorem ef_rmpick (m : MethodId) (k : Int32) : entryFrame m #[(.int k)] 1 = mkF m 0 #[.val (.int k)] [] := by first | (simp [entryFrame, mkF, argsToLocals, Value.category]; done) | rfl
set_option maxRecDepth 65536 in
set_option maxHeartbeats 40000000 in
theorem rmpick (l : Launch) (Z : State) (a0 : Array Value) (hw : ∀ d ∈ tables_1, d.before a0 Z = true) (ws : List Jvm.Cond) (k : Int32) (w_SUBJECT : Addr) (w_ORG : Addr) (w_RESOURCE : Addr) (w_EVENT : Addr) (w_ENV : Addr) (w_VAR : Addr) (w_BIND : Addr) (h0 : Heap) (n0 : Nat) (O0 : Old Z n0 h0) (S_SUBJECT : Sta Z Z.heap "com/example/verdictd/verdictd/Namespace" "SUBJECT" "Lcom/example/verdictd/verdictd/Namespace;" (.ref w_SUBJECT)) (S_ORG : Sta Z Z.heap "com/example/verdictd/verdictd/Namespace" "ORG" "Lcom/example/verdictd/verdictd/Namespace;" (.ref w_ORG)) (S_RESOURCE : Sta Z Z.heap "com/example/verdictd/verdictd/Namespace" "RESOURCE" "Lcom/example/verdictd/verdictd/Namespace;" (.ref w_RESOURCE)) (S_EVENT : Sta Z Z.heap "com/example/verdictd/verdictd/Namespace" "EVENT" "Lcom/example/verdictd/verdictd/Namespace;" (.ref w_EVENT)) (S_ENV : Sta Z Z.heap "com/example/verdictd/verdictd/Namespace" "ENV" "Lcom/example/verdictd/verdictd/Namespace;" (.ref w_ENV)) (S_VAR : Sta Z Z.heap "com/example/verdictd/verdictd/Namespace" "VAR" "Lcom/example/verdictd/verdictd/Namespace;" (.ref w_VAR)) (S_BIND : Sta Z Z.heap "com/example/verdictd/verdictd/Namespace" "BIND" "Lcom/example/verdictd/verdictd/Namespace;" (.ref w_BIND)) :
    MetFree l (⟨"com/example/verdictd/verdictd/NamespaceHoldsAttributesPinLaw", "pick", "(I)Lcom/example/verdictd/verdictd/Namespace;"⟩ : MethodName) (head1 (Jvm.Cond.code (⟨"com/example/verdictd/verdictd/NamespaceHoldsAttributesPinLaw", "pick", "(I)Lcom/example/verdictd/verdictd/Namespace;"⟩ : MethodName) method_2_code 1 (some (.object "com/example/verdictd/verdictd/Namespace")) :: ws) ({ frames := 0, cells := 0, slots := 0, locals := 0 } : Room)) (fun aa U => aa = #[(.int k)] ∧ Z.Warmed39 U.vm ∧ U.heap = h0) (fun _ _ _ _ _ => True) (fun _ U o U' => ∃ v L, o = .returned v ∧ Q_rmpick Z k w_SUBJECT w_ORG w_RESOURCE w_EVENT w_ENV w_VAR w_BIND h0 n0 v U'.heap L ∧ FrameEnd U o U' L ({ frames := 0, cells := 0, slots := 0, locals := 0 } : Room).cells ({ frames := 0, cells := 0, slots := 0, locals := 0 } : Room).slots) := by
  refine MetFree.of_bodySF (plainFor_of_name pn0) hisR ?_
  intro p e s m args below meth c s₁ Bd hml0 hP hK
  obtain ⟨rfl, hZ, hh⟩ := hP
  have hx := Bd.exec
  have hby := Bd.bytes
  have hml : c.maxLocals = 1 := hml0
  have hown : s.vm.findClass "com/example/verdictd/verdictd/NamespaceHoldsAttributesPinLaw" = some m.cls := findClass_of_methodNamed Bd.named
  have hnm := (name_of_methodNamed Bd.named Bd.method).1
  have X0 : Stand p l e ({ frames := 0, cells := 0, slots := 0, locals := 0 } : Room) s m #[(.int k)] below meth c s₁ [] 0 0 := Stand.of_body Bd
  have e0 : s₁.heap = h0 := by rw [← hh, Bd.state]; rfl
  have N0 := Fr.nil n0
  have K0 : Keep h0 h0 [] := Keep.refl _ _
  have pre0 : ∀ tgt, Steps p.tables e below (s₁.setTop (mkF m 0 #[.val (.int k)] [])) tgt → Steps p.tables e below (s₁.setTop (entryFrame m #[(.int k)] 1)) tgt := fun tgt kgo => castTop (ef_rmpick m k) kgo
  have pre1 : ∀ tgt, Steps p.tables e below (s₁.setTop (mkF m 1 #[.val (.int k)] [(.int k)])) tgt → Steps p.tables e below (s₁.setTop (entryFrame m #[(.int k)] 1)) tgt := by
    intro tgt kgo
    refine pre0 _ ?_
    refine XS.iloadN X0.here hx rfl (hb hby d_method_2_code_0) rfl ?_
    show Steps p.tables e below (s₁.setTop (mkF m 1 #[.val (.int k)] [(.int k)])) _
    exact kgo
  by_cases hc1_2 : k = (0 : Int32)
  · obtain ⟨T3, X3, e3, st3⟩ := getS2 X0 hx hZ hown (host := "") (Or.inl (ow5 hw)) Via.refl e0 (S_SUBJECT.ext O0.2) (g := (mkF m 4 #[.val (.int k)] [])) rfl (hb hby d_method_2_code_4)
    obtain ⟨fs, hretL, hrun, hended, hW, hsame⟩ := X3.leave (v := some (.ref w_SUBJECT)) (fun h => by rw [Bd.returns] at h; cases h)
    refine ⟨_, _, pre1 _ ?_, hrun, hended, _, _, rfl, ?_, ⟨_, rfl⟩, hW, hsame.mono (by decide) (by decide)⟩
    · refine XS.ifNo X0.here hx rfl (hb hby d_method_2_code_1) rfl ((if0 _ _).trans (teq hc1_2).2) ?_
      show Steps p.tables e below (s₁.setTop (mkF m 4 #[.val (.int k)] [])) _
      refine st3 _ ?_
      show Steps p.tables e below (T3.setTop (mkF m 7 #[.val (.int k)] [(.ref w_SUBJECT)])) _
      exact retOut X3 hx Bd.returns rfl (Or.inr (Or.inr (Or.inr (Or.inr ⟨rfl, rfl, rfl⟩)))) (hb hby d_method_2_code_7) hretL
    · show Q_rmpick Z k w_SUBJECT w_ORG w_RESOURCE w_EVENT w_ENV w_VAR w_BIND h0 n0 _ T3.heap _
      rw [e3]
      exact ⟨by simp only [pk, if_pos hc1_2], N0, rfl⟩
  · have pre4 : ∀ tgt, Steps p.tables e below (s₁.setTop (mkF m 10 #[.val (.int k)] [(.int (1 : Int32)), (.int k)])) tgt → Steps p.tables e below (s₁.setTop (entryFrame m #[(.int k)] 1)) tgt := by
      intro tgt kgo
      refine pre1 _ ?_
      refine XS.ifYes X0.here hx rfl (pc0 := 1) (pc' := 8) rfl (hb hby d_method_2_code_1) rfl ((if0 _ _).trans (feq hc1_2).2) (by decide) (by decide) ?_
      show Steps p.tables e below (s₁.setTop (mkF m 8 #[.val (.int k)] [])) _
      refine XS.iloadN X0.here hx rfl (hb hby d_method_2_code_8) rfl ?_
      show Steps p.tables e below (s₁.setTop (mkF m 9 #[.val (.int k)] [(.int k)])) _
      refine XS.iconst X0.here hx rfl (hb hby d_method_2_code_9) ?_
      show Steps p.tables e below (s₁.setTop (mkF m 10 #[.val (.int k)] [(.int (1 : Int32)), (.int k)])) _
      exact kgo
    by_cases hc10_5 : k = (1 : Int32)
    · obtain ⟨T6, X6, e6, st6⟩ := getS2 X0 hx hZ hown (host := "") (Or.inl (ow30 hw)) Via.refl e0 (S_ORG.ext O0.2) (g := (mkF m 13 #[.val (.int k)] [])) rfl (hb hby d_method_2_code_13)
      obtain ⟨fs, hretL, hrun, hended, hW, hsame⟩ := X6.leave (v := some (.ref w_ORG)) (fun h => by rw [Bd.returns] at h; cases h)
      refine ⟨_, _, pre4 _ ?_, hrun, hended, _, _, rfl, ?_, ⟨_, rfl⟩, hW, hsame.mono (by decide) (by decide)⟩
      · refine XS.icmpNo X0.here hx rfl (hb hby d_method_2_code_10) rfl (teq hc10_5).2 ?_
        show Steps p.tables e below (s₁.setTop (mkF m 13 #[.val (.int k)] [])) _
        refine st6 _ ?_
        show Steps p.tables e below (T6.setTop (mkF m 16 #[.val (.int k)] [(.ref w_ORG)])) _
        exact retOut X6 hx Bd.returns rfl (Or.inr (Or.inr (Or.inr (Or.inr ⟨rfl, rfl, rfl⟩)))) (hb hby d_method_2_code_16) hretL
      · show Q_rmpick Z k w_SUBJECT w_ORG w_RESOURCE w_EVENT w_ENV w_VAR w_BIND h0 n0 _ T6.heap _
        rw [e6]
        exact ⟨by simp only [pk, if_neg hc1_2, if_pos hc10_5], N0, rfl⟩
    · have pre7 : ∀ tgt, Steps p.tables e below (s₁.setTop (mkF m 19 #[.val (.int k)] [(.int (2 : Int32)), (.int k)])) tgt → Steps p.tables e below (s₁.setTop (entryFrame m #[(.int k)] 1)) tgt := by
        intro tgt kgo
        refine pre4 _ ?_
        refine XS.icmpYes X0.here hx rfl (pc0 := 10) (pc' := 17) rfl (hb hby d_method_2_code_10) rfl (feq hc10_5).2 (by decide) (by decide) ?_
        show Steps p.tables e below (s₁.setTop (mkF m 17 #[.val (.int k)] [])) _
        refine XS.iloadN X0.here hx rfl (hb hby d_method_2_code_17) rfl ?_
        show Steps p.tables e below (s₁.setTop (mkF m 18 #[.val (.int k)] [(.int k)])) _
        refine XS.iconst X0.here hx rfl (hb hby d_method_2_code_18) ?_
        show Steps p.tables e below (s₁.setTop (mkF m 19 #[.val (.int k)] [(.int (2 : Int32)), (.int k)])) _
        exact kgo
      by_cases hc19_8 : k = (2 : Int32)
      · obtain ⟨T9, X9, e9, st9⟩ := getS2 X0 hx hZ hown (host := "") (Or.inl (ow28 hw)) Via.refl e0 (S_RESOURCE.ext O0.2) (g := (mkF m 22 #[.val (.int k)] [])) rfl (hb hby d_method_2_code_22)
        obtain ⟨fs, hretL, hrun, hended, hW, hsame⟩ := X9.leave (v := some (.ref w_RESOURCE)) (fun h => by rw [Bd.returns] at h; cases h)
        refine ⟨_, _, pre7 _ ?_, hrun, hended, _, _, rfl, ?_, ⟨_, rfl⟩, hW, hsame.mono (by decide) (by decide)⟩
        · refine XS.icmpNo X0.here hx rfl (hb hby d_method_2_code_19) rfl (teq hc19_8).2 ?_
          show Steps p.tables e below (s₁.setTop (mkF m 22 #[.val (.int k)] [])) _
          refine st9 _ ?_
          show Steps p.tables e below (T9.setTop (mkF m 25 #[.val (.int k)] [(.ref w_RESOURCE)])) _
          exact retOut X9 hx Bd.returns rfl (Or.inr (Or.inr (Or.inr (Or.inr ⟨rfl, rfl, rfl⟩)))) (hb hby d_method_2_code_25) hretL
        · show Q_rmpick Z k w_SUBJECT w_ORG w_RESOURCE w_EVENT w_ENV w_VAR w_BIND h0 n0 _ T9.heap _
          rw [e9]
          exact ⟨by simp only [pk, if_neg hc1_2, if_neg hc10_5, if_pos hc19_8], N0, rfl⟩
      · have pre10 : ∀ tgt, Steps p.tables e below (s₁.setTop (mkF m 28 #[.val (.int k)] [(.int (3 : Int32)), (.int k)])) tgt → Steps p.tables e below (s₁.setTop (entryFrame m #[(.int k)] 1)) tgt := by
          intro tgt kgo
          refine pre7 _ ?_
          refine XS.icmpYes X0.here hx rfl (pc0 := 19) (pc' := 26) rfl (hb hby d_method_2_code_19) rfl (feq hc19_8).2 (by decide) (by decide) ?_
          show Steps p.tables e below (s₁.setTop (mkF m 26 #[.val (.int k)] [])) _
          refine XS.iloadN X0.here hx rfl (hb hby d_method_2_code_26) rfl ?_
          show Steps p.tables e below (s₁.setTop (mkF m 27 #[.val (.int k)] [(.int k)])) _
          refine XS.iconst X0.here hx rfl (hb hby d_method_2_code_27) ?_
          show Steps p.tables e below (s₁.setTop (mkF m 28 #[.val (.int k)] [(.int (3 : Int32)), (.int k)])) _
          exact kgo
        by_cases hc28_11 : k = (3 : Int32)
        · obtain ⟨T12, X12, e12, st12⟩ := getS2 X0 hx hZ hown (host := "") (Or.inl (ow20 hw)) Via.refl e0 (S_EVENT.ext O0.2) (g := (mkF m 31 #[.val (.int k)] [])) rfl (hb hby d_method_2_code_31)
          obtain ⟨fs, hretL, hrun, hended, hW, hsame⟩ := X12.leave (v := some (.ref w_EVENT)) (fun h => by rw [Bd.returns] at h; cases h)
          refine ⟨_, _, pre10 _ ?_, hrun, hended, _, _, rfl, ?_, ⟨_, rfl⟩, hW, hsame.mono (by decide) (by decide)⟩
          · refine XS.icmpNo X0.here hx rfl (hb hby d_method_2_code_28) rfl (teq hc28_11).2 ?_
            show Steps p.tables e below (s₁.setTop (mkF m 31 #[.val (.int k)] [])) _
            refine st12 _ ?_
            show Steps p.tables e below (T12.setTop (mkF m 34 #[.val (.int k)] [(.ref w_EVENT)])) _
            exact retOut X12 hx Bd.returns rfl (Or.inr (Or.inr (Or.inr (Or.inr ⟨rfl, rfl, rfl⟩)))) (hb hby d_method_2_code_34) hretL
          · show Q_rmpick Z k w_SUBJECT w_ORG w_RESOURCE w_EVENT w_ENV w_VAR w_BIND h0 n0 _ T12.heap _
            rw [e12]
            exact ⟨by simp only [pk, if_neg hc1_2, if_neg hc10_5, if_neg hc19_8, if_pos hc28_11], N0, rfl⟩
        · have pre13 : ∀ tgt, Steps p.tables e below (s₁.setTop (mkF m 37 #[.val (.int k)] [(.int (4 : Int32)), (.int k)])) tgt → Steps p.tables e below (s₁.setTop (entryFrame m #[(.int k)] 1)) tgt := by
            intro tgt kgo
            refine pre10 _ ?_
            refine XS.icmpYes X0.here hx rfl (pc0 := 28) (pc' := 35) rfl (hb hby d_method_2_code_28) rfl (feq hc28_11).2 (by decide) (by decide) ?_
            show Steps p.tables e below (s₁.setTop (mkF m 35 #[.val (.int k)] [])) _
            refine XS.iloadN X0.here hx rfl (hb hby d_method_2_code_35) rfl ?_
            show Steps p.tables e below (s₁.setTop (mkF m 36 #[.val (.int k)] [(.int k)])) _
            refine XS.iconst X0.here hx rfl (hb hby d_method_2_code_36) ?_
            show Steps p.tables e below (s₁.setTop (mkF m 37 #[.val (.int k)] [(.int (4 : Int32)), (.int k)])) _
            exact kgo
          by_cases hc37_14 : k = (4 : Int32)
          · obtain ⟨T15, X15, e15, st15⟩ := getS2 X0 hx hZ hown (host := "") (Or.inl (ow26 hw)) Via.refl e0 (S_ENV.ext O0.2) (g := (mkF m 40 #[.val (.int k)] [])) rfl (hb hby d_method_2_code_40)
            obtain ⟨fs, hretL, hrun, hended, hW, hsame⟩ := X15.leave (v := some (.ref w_ENV)) (fun h => by rw [Bd.returns] at h; cases h)
            refine ⟨_, _, pre13 _ ?_, hrun, hended, _, _, rfl, ?_, ⟨_, rfl⟩, hW, hsame.mono (by decide) (by decide)⟩
            · refine XS.icmpNo X0.here hx rfl (hb hby d_method_2_code_37) rfl (teq hc37_14).2 ?_
              show Steps p.tables e below (s₁.setTop (mkF m 40 #[.val (.int k)] [])) _
              refine st15 _ ?_
              show Steps p.tables e below (T15.setTop (mkF m 43 #[.val (.int k)] [(.ref w_ENV)])) _
              exact retOut X15 hx Bd.returns rfl (Or.inr (Or.inr (Or.inr (Or.inr ⟨rfl, rfl, rfl⟩)))) (hb hby d_method_2_code_43) hretL
            · show Q_rmpick Z k w_SUBJECT w_ORG w_RESOURCE w_EVENT w_ENV w_VAR w_BIND h0 n0 _ T15.heap _
              rw [e15]
              exact ⟨by simp only [pk, if_neg hc1_2, if_neg hc10_5, if_neg hc19_8, if_neg hc28_11, if_pos hc37_14], N0, rfl⟩
          · have pre16 : ∀ tgt, Steps p.tables e below (s₁.setTop (mkF m 46 #[.val (.int k)] [(.int (5 : Int32)), (.int k)])) tgt → Steps p.tables e below (s₁.setTop (entryFrame m #[(.int k)] 1)) tgt := by
              intro tgt kgo
              refine pre13 _ ?_
              refine XS.icmpYes X0.here hx rfl (pc0 := 37) (pc' := 44) rfl (hb hby d_method_2_code_37) rfl (feq hc37_14).2 (by decide) (by decide) ?_
              show Steps p.tables e below (s₁.setTop (mkF m 44 #[.val (.int k)] [])) _
              refine XS.iloadN X0.here hx rfl (hb hby d_method_2_code_44) rfl ?_
              show Steps p.tables e below (s₁.setTop (mkF m 45 #[.val (.int k)] [(.int k)])) _
              refine XS.iconst X0.here hx rfl (hb hby d_method_2_code_45) ?_
              show Steps p.tables e below (s₁.setTop (mkF m 46 #[.val (.int k)] [(.int (5 : Int32)), (.int k)])) _
              exact kgo
            by_cases hc46_17 : k = (5 : Int32)
            · obtain ⟨T18, X18, e18, st18⟩ := getS2 X0 hx hZ hown (host := "") (Or.inl (ow22 hw)) Via.refl e0 (S_VAR.ext O0.2) (g := (mkF m 49 #[.val (.int k)] [])) rfl (hb hby d_method_2_code_49)
              obtain ⟨fs, hretL, hrun, hended, hW, hsame⟩ := X18.leave (v := some (.ref w_VAR)) (fun h => by rw [Bd.returns] at h; cases h)
              refine ⟨_, _, pre16 _ ?_, hrun, hended, _, _, rfl, ?_, ⟨_, rfl⟩, hW, hsame.mono (by decide) (by decide)⟩
              · refine XS.icmpNo X0.here hx rfl (hb hby d_method_2_code_46) rfl (teq hc46_17).2 ?_
                show Steps p.tables e below (s₁.setTop (mkF m 49 #[.val (.int k)] [])) _
                refine st18 _ ?_
                show Steps p.tables e below (T18.setTop (mkF m 52 #[.val (.int k)] [(.ref w_VAR)])) _
                exact retOut X18 hx Bd.returns rfl (Or.inr (Or.inr (Or.inr (Or.inr ⟨rfl, rfl, rfl⟩)))) (hb hby d_method_2_code_52) hretL
              · show Q_rmpick Z k w_SUBJECT w_ORG w_RESOURCE w_EVENT w_ENV w_VAR w_BIND h0 n0 _ T18.heap _
                rw [e18]
                exact ⟨by simp only [pk, if_neg hc1_2, if_neg hc10_5, if_neg hc19_8, if_neg hc28_11, if_neg hc37_14, if_pos hc46_17], N0, rfl⟩
            · obtain ⟨T19, X19, e19, st19⟩ := getS2 X0 hx hZ hown (host := "") (Or.inl (ow24 hw)) Via.refl e0 (S_BIND.ext O0.2) (g := (mkF m 53 #[.val (.int k)] [])) rfl (hb hby d_method_2_code_53)
              obtain ⟨fs, hretL, hrun, hended, hW, hsame⟩ := X19.leave (v := some (.ref w_BIND)) (fun h => by rw [Bd.returns] at h; cases h)
              refine ⟨_, _, pre16 _ ?_, hrun, hended, _, _, rfl, ?_, ⟨_, rfl⟩, hW, hsame.mono (by decide) (by decide)⟩
              · refine XS.icmpYes X0.here hx rfl (pc0 := 46) (pc' := 53) rfl (hb hby d_method_2_code_46) rfl (feq hc46_17).2 (by decide) (by decide) ?_
                show Steps p.tables e below (s₁.setTop (mkF m 53 #[.val (.int k)] [])) _
                refine st19 _ ?_
                show Steps p.tables e below (T19.setTop (mkF m 56 #[.val (.int k)] [(.ref w_BIND)])) _
                exact retOut X19 hx Bd.returns rfl (Or.inr (Or.inr (Or.inr (Or.inr ⟨rfl, rfl, rfl⟩)))) (hb hby d_method_2_code_56) hretL
              · show Q_rmpick Z k w_SUBJECT w_ORG w_RESOURCE w_EVENT w_ENV w_VAR w_BIND h0 n0 _ T19.heap _
                rw [e19]
                exact ⟨by simp only [pk, if_neg hc1_2, if_neg hc10_5, if_neg hc19_8, if_neg hc28_11, if_neg hc37_14, if_neg hc46_17], N0, rfl⟩
theorem d_prog_19_method_9_code_0 : decode prog_19_method_9_code 0 = .ok (.aload_n 0, 1) := by decide +kernel
theorem d_prog_19_method_9_code_1 : decode prog_19_method_9_code 1 = .ok (.getfield 48, 3) := by decide +kernel
theorem d_prog_19_method_9_code_4 : decode prog_19_method_9_code 4 = .ok (.ifnull 7, 3) := by decide +kernel
theorem d_prog_19_method_9_code_7 : decode prog_19_method_9_code 7 = .ok (.iconst 1, 1) := by decide +kernel
theorem d_prog_19_method_9_code_8 : decode prog_19_method_9_code 8 = .ok (.goto 4, 3) := by decide +kernel
theorem d_prog_19_method_9_code_11 : decode prog_19_method_9_code 11 = .ok (.iconst 0, 1) := by decide +kernel
theorem d_prog_19_method_9_code_12 : decode prog_19_method_9_code 12 = .ok (.ireturn, 1) := by decide +kernel
def Q_rmhol (Z : State) (a : Addr) (cv : Value) (h0 : Heap) (n0 : Nat) (v : Option Value) (h : Heap) (L : List Loc) : Prop := v = some (.int (ha cv)) ∧ Fr n0 L ∧ h = h0
theorem ef_rmhol (m : MethodId) (a : Addr) : entryFrame m #[(.ref a)] 1 = mkF m 0 #[.val (.ref a)] [] := by first | (simp [entryFrame, mkF, argsToLocals, Value.category]; done) | rfl
set_option maxRecDepth 65536 in
set_option maxHeartbeats 40000000 in
theorem rmhol (l : Launch) (Z : State) (a0 : Array Value) (hw : ∀ d ∈ tables_1, d.before a0 Z = true) (ws : List Jvm.Cond) (a : Addr) (cv : Value) (h0 : Heap) (n0 : Nat) (O0 : Old Z n0 h0) (hr : cv.isRef = true) (Fc : Fld Z h0 a "com/example/verdictd/verdictd/Namespace" "collection" "Ljava/lang/String;" cv) :
    MetFree l (⟨"com/example/verdictd/verdictd/Namespace", "holdsAttributes", "()Z"⟩ : MethodName) (head1 (Jvm.Cond.code (⟨"com/example/verdictd/verdictd/Namespace", "holdsAttributes", "()Z"⟩ : MethodName) prog_19_method_9_code 1 (some .boolean) :: ws) ({ frames := 0, cells := 0, slots := 0, locals := 0 } : Room)) (fun aa U => aa = #[(.ref a)] ∧ Z.Warmed39 U.vm ∧ U.heap = h0) (fun _ _ _ _ _ => True) (fun _ U o U' => ∃ v L, o = .returned v ∧ Q_rmhol Z a cv h0 n0 v U'.heap L ∧ FrameEnd U o U' L ({ frames := 0, cells := 0, slots := 0, locals := 0 } : Room).cells ({ frames := 0, cells := 0, slots := 0, locals := 0 } : Room).slots) := by
  refine MetFree.of_bodySF (plainFor_of_name pn1) hisR ?_
  intro p e s m args below meth c s₁ Bd hml0 hP hK
  obtain ⟨rfl, hZ, hh⟩ := hP
  have hx := Bd.exec
  have hby := Bd.bytes
  have hml : c.maxLocals = 1 := hml0
  have hown : s.vm.findClass "com/example/verdictd/verdictd/Namespace" = some m.cls := findClass_of_methodNamed Bd.named
  have hnm := (name_of_methodNamed Bd.named Bd.method).1
  have X0 : Stand p l e ({ frames := 0, cells := 0, slots := 0, locals := 0 } : Room) s m #[(.ref a)] below meth c s₁ [] 0 0 := Stand.of_body Bd
  have e0 : s₁.heap = h0 := by rw [← hh, Bd.state]; rfl
  have N0 := Fr.nil n0
  have K0 : Keep h0 h0 [] := Keep.refl _ _
  have pre0 : ∀ tgt, Steps p.tables e below (s₁.setTop (mkF m 0 #[.val (.ref a)] [])) tgt → Steps p.tables e below (s₁.setTop (entryFrame m #[(.ref a)] 1)) tgt := fun tgt kgo => castTop (ef_rmhol m a) kgo
  obtain ⟨T1, X1, e1, st1⟩ := getF X0 hx hZ hown (host := "") (Or.inl (ow13 hw)) Via.refl e0 Fc (g := (mkF m 1 #[.val (.ref a)] [(.ref a)])) rfl rfl (hb hby d_prog_19_method_9_code_1)
  have pre2 : ∀ tgt, Steps p.tables e below (T1.setTop (mkF m 4 #[.val (.ref a)] [cv])) tgt → Steps p.tables e below (s₁.setTop (entryFrame m #[(.ref a)] 1)) tgt := by
    intro tgt kgo
    refine pre0 _ ?_
    refine XS.aloadN X0.here hx rfl (hb hby d_prog_19_method_9_code_0) rfl rfl ?_
    show Steps p.tables e below (s₁.setTop (mkF m 1 #[.val (.ref a)] [(.ref a)])) _
    refine st1 _ ?_
    show Steps p.tables e below (T1.setTop (mkF m 4 #[.val (.ref a)] [cv])) _
    exact kgo
  rcases ref_cases hr with hv3 | ⟨av3, hv3⟩
  · have pre4 : ∀ tgt, Steps p.tables e below (T1.setTop (mkF m 4 #[.val (.ref a)] [.null])) tgt → Steps p.tables e below (s₁.setTop (entryFrame m #[(.ref a)] 1)) tgt := by
      have q := pre2
      rw [hv3] at q
      exact q
    obtain ⟨fs, hretL, hrun, hended, hW, hsame⟩ := X1.leave (v := some (.int (0 : Int32))) (fun h => by rw [Bd.returns] at h; cases h)
    refine ⟨_, _, pre4 _ ?_, hrun, hended, _, _, rfl, ?_, ⟨_, rfl⟩, hW, hsame.mono (by decide) (by decide)⟩
    · refine XS.ifnullYes X1.here hx rfl (pc0 := 4) (pc' := 11) rfl (hb hby d_prog_19_method_9_code_4) rfl (by decide) (by decide) ?_
      show Steps p.tables e below (T1.setTop (mkF m 11 #[.val (.ref a)] [])) _
      refine XS.iconst X1.here hx rfl (hb hby d_prog_19_method_9_code_11) ?_
      show Steps p.tables e below (T1.setTop (mkF m 12 #[.val (.ref a)] [(.int (0 : Int32))])) _
      exact retOut X1 hx Bd.returns rfl (Or.inl ⟨rfl, Or.inr (Or.inl rfl), _, rfl⟩) (hb hby d_prog_19_method_9_code_12) hretL
    · show Q_rmhol Z a cv h0 n0 _ T1.heap _
      rw [e1]
      exact ⟨by simp only [ha, if_pos hv3], N0, rfl⟩
  · have pre5 : ∀ tgt, Steps p.tables e below (T1.setTop (mkF m 4 #[.val (.ref a)] [(.ref av3)])) tgt → Steps p.tables e below (s₁.setTop (entryFrame m #[(.ref a)] 1)) tgt := by
      have q := pre2
      rw [hv3] at q
      exact q
    obtain ⟨fs, hretL, hrun, hended, hW, hsame⟩ := X1.leave (v := some (.int (1 : Int32))) (fun h => by rw [Bd.returns] at h; cases h)
    refine ⟨_, _, pre5 _ ?_, hrun, hended, _, _, rfl, ?_, ⟨_, rfl⟩, hW, hsame.mono (by decide) (by decide)⟩
    · refine XS.ifnullNo X1.here hx rfl (hb hby d_prog_19_method_9_code_4) rfl ?_
      show Steps p.tables e below (T1.setTop (mkF m 7 #[.val (.ref a)] [])) _
      refine XS.iconst X1.here hx rfl (hb hby d_prog_19_method_9_code_7) ?_
      show Steps p.tables e below (T1.setTop (mkF m 8 #[.val (.ref a)] [(.int (1 : Int32))])) _
      refine XS.goto X1.here hx rfl (pc0 := 8) (pc' := 12) rfl (hb hby d_prog_19_method_9_code_8) (by decide) (by decide) ?_
      show Steps p.tables e below (T1.setTop (mkF m 12 #[.val (.ref a)] [(.int (1 : Int32))])) _
      exact retOut X1 hx Bd.returns rfl (Or.inl ⟨rfl, Or.inr (Or.inl rfl), _, rfl⟩) (hb hby d_prog_19_method_9_code_12) hretL
    · show Q_rmhol Z a cv h0 n0 _ T1.heap _
      rw [e1]
      exact ⟨by simp only [ha, if_neg (own_nn hv3)], N0, rfl⟩
theorem d_prog_19_method_8_code_0 : decode prog_19_method_8_code 0 = .ok (.aload_n 0, 1) := by decide +kernel
theorem d_prog_19_method_8_code_1 : decode prog_19_method_8_code 1 = .ok (.getfield 48, 3) := by decide +kernel
theorem d_prog_19_method_8_code_4 : decode prog_19_method_8_code 4 = .ok (.areturn, 1) := by decide +kernel
def Q_rmcol (Z : State) (a : Addr) (cv : Value) (h0 : Heap) (n0 : Nat) (v : Option Value) (h : Heap) (L : List Loc) : Prop := v = some cv ∧ Fr n0 L ∧ h = h0
theorem ef_rmcol (m : MethodId) (a : Addr) : entryFrame m #[(.ref a)] 1 = mkF m 0 #[.val (.ref a)] [] := by first | (simp [entryFrame, mkF, argsToLocals, Value.category]; done) | rfl
set_option maxRecDepth 65536 in
set_option maxHeartbeats 40000000 in
theorem rmcol (l : Launch) (Z : State) (a0 : Array Value) (hw : ∀ d ∈ tables_1, d.before a0 Z = true) (ws : List Jvm.Cond) (a : Addr) (cv : Value) (h0 : Heap) (n0 : Nat) (O0 : Old Z n0 h0) (hr : cv.isRef = true) (Fc : Fld Z h0 a "com/example/verdictd/verdictd/Namespace" "collection" "Ljava/lang/String;" cv) :
    MetFree l (⟨"com/example/verdictd/verdictd/Namespace", "collection", "()Ljava/lang/String;"⟩ : MethodName) (head1 (Jvm.Cond.code (⟨"com/example/verdictd/verdictd/Namespace", "collection", "()Ljava/lang/String;"⟩ : MethodName) prog_19_method_8_code 1 (some (.object "java/lang/String")) :: ws) ({ frames := 0, cells := 0, slots := 0, locals := 0 } : Room)) (fun aa U => aa = #[(.ref a)] ∧ Z.Warmed39 U.vm ∧ U.heap = h0) (fun _ _ _ _ _ => True) (fun _ U o U' => ∃ v L, o = .returned v ∧ Q_rmcol Z a cv h0 n0 v U'.heap L ∧ FrameEnd U o U' L ({ frames := 0, cells := 0, slots := 0, locals := 0 } : Room).cells ({ frames := 0, cells := 0, slots := 0, locals := 0 } : Room).slots) := by
  refine MetFree.of_bodySF (plainFor_of_name pn1) hisR ?_
  intro p e s m args below meth c s₁ Bd hml0 hP hK
  obtain ⟨rfl, hZ, hh⟩ := hP
  have hx := Bd.exec
  have hby := Bd.bytes
  have hml : c.maxLocals = 1 := hml0
  have hown : s.vm.findClass "com/example/verdictd/verdictd/Namespace" = some m.cls := findClass_of_methodNamed Bd.named
  have hnm := (name_of_methodNamed Bd.named Bd.method).1
  have X0 : Stand p l e ({ frames := 0, cells := 0, slots := 0, locals := 0 } : Room) s m #[(.ref a)] below meth c s₁ [] 0 0 := Stand.of_body Bd
  have e0 : s₁.heap = h0 := by rw [← hh, Bd.state]; rfl
  have N0 := Fr.nil n0
  have K0 : Keep h0 h0 [] := Keep.refl _ _
  have pre0 : ∀ tgt, Steps p.tables e below (s₁.setTop (mkF m 0 #[.val (.ref a)] [])) tgt → Steps p.tables e below (s₁.setTop (entryFrame m #[(.ref a)] 1)) tgt := fun tgt kgo => castTop (ef_rmcol m a) kgo
  obtain ⟨T1, X1, e1, st1⟩ := getF X0 hx hZ hown (host := "") (Or.inl (ow13 hw)) Via.refl e0 Fc (g := (mkF m 1 #[.val (.ref a)] [(.ref a)])) rfl rfl (hb hby d_prog_19_method_8_code_1)
  obtain ⟨fs, hretL, hrun, hended, hW, hsame⟩ := X1.leave (v := some cv) (fun h => by rw [Bd.returns] at h; cases h)
  refine ⟨_, _, pre0 _ ?_, hrun, hended, _, _, rfl, ?_, ⟨_, rfl⟩, hW, hsame.mono (by decide) (by decide)⟩
  · refine XS.aloadN X0.here hx rfl (hb hby d_prog_19_method_8_code_0) rfl rfl ?_
    show Steps p.tables e below (s₁.setTop (mkF m 1 #[.val (.ref a)] [(.ref a)])) _
    refine st1 _ ?_
    show Steps p.tables e below (T1.setTop (mkF m 4 #[.val (.ref a)] [cv])) _
    exact retOut X1 hx Bd.returns (own_nref hr) (Or.inr (Or.inr (Or.inr (Or.inr ⟨rfl, rfl, hr⟩)))) (hb hby d_prog_19_method_8_code_4) hretL
  · show Q_rmcol Z a cv h0 n0 _ T1.heap _
    rw [e1]
    exact ⟨rfl, N0, rfl⟩
theorem own_cvr (i : Int32) (a b d : Addr) : (pk i (.ref a) (.ref b) (.ref d) .null .null .null .null : Value).isRef = true := by
  unfold pk
  repeat' split
  all_goals rfl
theorem own_law1 {i x z : Int32} {a b d : Addr} (h : i = (x &&& (2147483647 : Int32)) % (7 : Int32)) (hz : z = (if (2 : Int32) < i then (0 : Int32) else (1 : Int32))) :
    ha (pk i (.ref a) (.ref b) (.ref d) .null .null .null .null : Value) = z := by
  subst hz
  have hm := own_mod7 h
  clear h
  rcases hm with rfl | rfl | rfl | rfl | rfl | rfl | rfl <;> simp [pk, ha] <;> decide
def Q_rm0 (Z : State) (x0 : Int32) (w_SUBJECT : Addr) (w_EVENT : Addr) (w_VAR : Addr) (w_BIND : Addr) (w_ENV : Addr) (w_RESOURCE : Addr) (w_ORG : Addr) (w_SUBJECT_collection : Addr) (w_RESOURCE_collection : Addr) (w_ORG_collection : Addr) (h0 : Heap) (n0 : Nat) (v : Option Value) (h : Heap) (L : List Loc) : Prop := v = some (.int (1 : Int32)) ∧ Fr n0 L
theorem ef_rm0 (m : MethodId) (x0 : Int32) : entryFrame m #[(.int x0)] maxLocals = mkF m 0 #[.val (.int x0), .unset, .unset, .unset, .unset, .unset] [] := by first | (simp [entryFrame, mkF, argsToLocals, Value.category, maxLocals]; done) | rfl
set_option maxRecDepth 65536 in
set_option maxHeartbeats 40000000 in
theorem rm0 (l : Launch) (Z : State) (a0 : Array Value) (hw : ∀ d ∈ tables_1, d.before a0 Z = true) (ws : List Jvm.Cond) (x0 : Int32) (w_SUBJECT : Addr) (w_EVENT : Addr) (w_VAR : Addr) (w_BIND : Addr) (w_ENV : Addr) (w_RESOURCE : Addr) (w_ORG : Addr) (w_SUBJECT_collection : Addr) (w_RESOURCE_collection : Addr) (w_ORG_collection : Addr) (h0 : Heap) (n0 : Nat) (O0 : Old Z n0 h0) (S_SUBJECT : Sta Z Z.heap "com/example/verdictd/verdictd/Namespace" "SUBJECT" "Lcom/example/verdictd/verdictd/Namespace;" (.ref w_SUBJECT)) (E_SUBJECT : Exa Z Z.heap w_SUBJECT "com/example/verdictd/verdictd/Namespace") (S_EVENT : Sta Z Z.heap "com/example/verdictd/verdictd/Namespace" "EVENT" "Lcom/example/verdictd/verdictd/Namespace;" (.ref w_EVENT)) (E_EVENT : Exa Z Z.heap w_EVENT "com/example/verdictd/verdictd/Namespace") (S_VAR : Sta Z Z.heap "com/example/verdictd/verdictd/Namespace" "VAR" "Lcom/example/verdictd/verdictd/Namespace;" (.ref w_VAR)) (E_VAR : Exa Z Z.heap w_VAR "com/example/verdictd/verdictd/Namespace") (S_BIND : Sta Z Z.heap "com/example/verdictd/verdictd/Namespace" "BIND" "Lcom/example/verdictd/verdictd/Namespace;" (.ref w_BIND)) (E_BIND : Exa Z Z.heap w_BIND "com/example/verdictd/verdictd/Namespace") (S_ENV : Sta Z Z.heap "com/example/verdictd/verdictd/Namespace" "ENV" "Lcom/example/verdictd/verdictd/Namespace;" (.ref w_ENV)) (E_ENV : Exa Z Z.heap w_ENV "com/example/verdictd/verdictd/Namespace") (S_RESOURCE : Sta Z Z.heap "com/example/verdictd/verdictd/Namespace" "RESOURCE" "Lcom/example/verdictd/verdictd/Namespace;" (.ref w_RESOURCE)) (E_RESOURCE : Exa Z Z.heap w_RESOURCE "com/example/verdictd/verdictd/Namespace") (S_ORG : Sta Z Z.heap "com/example/verdictd/verdictd/Namespace" "ORG" "Lcom/example/verdictd/verdictd/Namespace;" (.ref w_ORG)) (E_ORG : Exa Z Z.heap w_ORG "com/example/verdictd/verdictd/Namespace") (F_SUBJECT_collection : Fld Z Z.heap w_SUBJECT "com/example/verdictd/verdictd/Namespace" "collection" "Ljava/lang/String;" (.ref w_SUBJECT_collection)) (E_SUBJECT_collection : Exa Z Z.heap w_SUBJECT_collection "java/lang/String") (F_RESOURCE_collection : Fld Z Z.heap w_RESOURCE "com/example/verdictd/verdictd/Namespace" "collection" "Ljava/lang/String;" (.ref w_RESOURCE_collection)) (E_RESOURCE_collection : Exa Z Z.heap w_RESOURCE_collection "java/lang/String") (F_ORG_collection : Fld Z Z.heap w_ORG "com/example/verdictd/verdictd/Namespace" "collection" "Ljava/lang/String;" (.ref w_ORG_collection)) (E_ORG_collection : Exa Z Z.heap w_ORG_collection "java/lang/String") (F_EVENT_collection : Fld Z Z.heap w_EVENT "com/example/verdictd/verdictd/Namespace" "collection" "Ljava/lang/String;" .null) (F_VAR_collection : Fld Z Z.heap w_VAR "com/example/verdictd/verdictd/Namespace" "collection" "Ljava/lang/String;" .null) (F_BIND_collection : Fld Z Z.heap w_BIND "com/example/verdictd/verdictd/Namespace" "collection" "Ljava/lang/String;" .null) (F_ENV_collection : Fld Z Z.heap w_ENV "com/example/verdictd/verdictd/Namespace" "collection" "Ljava/lang/String;" .null) :
    MetFree l x (head1 (Jvm.Cond.code x code maxLocals ret :: ws) room_1) (fun aa U => aa = #[(.int x0)] ∧ Z.Warmed39 U.vm ∧ U.heap = h0) (fun _ _ _ _ _ => True) (fun _ U o U' => ∃ v L, o = .returned v ∧ Q_rm0 Z x0 w_SUBJECT w_EVENT w_VAR w_BIND w_ENV w_RESOURCE w_ORG w_SUBJECT_collection w_RESOURCE_collection w_ORG_collection h0 n0 v U'.heap L ∧ FrameEnd U o U' L 0 0) := by
  refine MetFree.of_bodySF (plainFor_of_name pn0) hisR ?_
  intro p e s m args below meth c s₁ Bd hml0 hP hK
  obtain ⟨rfl, hZ, hh⟩ := hP
  have hx := Bd.exec
  have hby := Bd.bytes
  have hml : c.maxLocals = 6 := hml0
  have hown : s.vm.findClass "com/example/verdictd/verdictd/NamespaceHoldsAttributesPinLaw" = some m.cls := findClass_of_methodNamed Bd.named
  have hnm := (name_of_methodNamed Bd.named Bd.method).1
  have X0 : Stand p l e room_1 s m #[(.int x0)] below meth c s₁ [] 0 0 := Stand.of_body Bd
  have e0 : s₁.heap = h0 := by rw [← hh, Bd.state]; rfl
  have N0 := Fr.nil n0
  have pre0 : ∀ tgt, Steps p.tables e below (s₁.setTop (mkF m 0 #[.val (.int x0), .unset, .unset, .unset, .unset, .unset] [])) tgt → Steps p.tables e below (s₁.setTop (entryFrame m #[(.int x0)] maxLocals)) tgt := fun tgt kgo => castTop (ef_rm0 m x0) kgo
  have pre1 : ∀ tgt, Steps p.tables e below (s₁.setTop (mkF m 8 #[.val (.int x0), .val (.int ((x0 &&& (2147483647 : Int32)) % (7 : Int32))), .unset, .unset, .unset, .unset] [])) tgt → Steps p.tables e below (s₁.setTop (entryFrame m #[(.int x0)] maxLocals)) tgt := by
    intro tgt kgo
    refine pre0 _ ?_
    refine XS.iloadN X0.here hx rfl (hb hby at_0) rfl ?_
    show Steps p.tables e below (s₁.setTop (mkF m 1 #[.val (.int x0), .unset, .unset, .unset, .unset, .unset] [(.int x0)])) _
    refine X0.ldcI hx hown (mvT hZ (ow0 hw)) rfl (hb hby at_1) ?_
    show Steps p.tables e below (s₁.setTop (mkF m 3 #[.val (.int x0), .unset, .unset, .unset, .unset, .unset] [(.int (2147483647 : Int32)), (.int x0)])) _
    refine XS.iand X0.here hx rfl (hb hby at_3) rfl ?_
    show Steps p.tables e below (s₁.setTop (mkF m 4 #[.val (.int x0), .unset, .unset, .unset, .unset, .unset] [(.int (x0 &&& (2147483647 : Int32)))])) _
    refine XS.bipush X0.here hx rfl (hb hby at_4) ?_
    show Steps p.tables e below (s₁.setTop (mkF m 6 #[.val (.int x0), .unset, .unset, .unset, .unset, .unset] [(.int (7 : Int32)), (.int (x0 &&& (2147483647 : Int32)))])) _
    refine iremM (g := (mkF m 6 #[.val (.int x0), .unset, .unset, .unset, .unset, .unset] [(.int (7 : Int32)), (.int (x0 &&& (2147483647 : Int32)))])) X0 hx rfl (hb hby at_6) rfl (by decide) ?_
    show Steps p.tables e below (s₁.setTop (mkF m 7 #[.val (.int x0), .unset, .unset, .unset, .unset, .unset] [(.int ((x0 &&& (2147483647 : Int32)) % (7 : Int32)))])) _
    refine XS.istoreN X0.here hx rfl (hb hby at_7) rfl (l' := #[.val (.int x0), .val (.int ((x0 &&& (2147483647 : Int32)) % (7 : Int32))), .unset, .unset, .unset, .unset]) rfl ?_
    show Steps p.tables e below (s₁.setTop (mkF m 8 #[.val (.int x0), .val (.int ((x0 &&& (2147483647 : Int32)) % (7 : Int32))), .unset, .unset, .unset, .unset] [])) _
    exact kgo
  obtain ⟨i, hi⟩ : ∃ z, z = ((x0 &&& (2147483647 : Int32)) % (7 : Int32)) := ⟨_, rfl⟩
  have pre2 : ∀ tgt, Steps p.tables e below (s₁.setTop (mkF m 8 #[.val (.int x0), .val (.int i), .unset, .unset, .unset, .unset] [])) tgt → Steps p.tables e below (s₁.setTop (entryFrame m #[(.int x0)] maxLocals)) tgt := by
    rw [hi]; exact pre1
  obtain ⟨_, _, ⟨T3, L3, k3, n3⟩, -, X3, ⟨Lc3, hQ3, l3, y3, z3⟩, st3⟩ := Jvm.LawKit.callS X0 hx (y := (⟨"com/example/verdictd/verdictd/NamespaceHoldsAttributesPinLaw", "pick", "(I)Lcom/example/verdictd/verdictd/Namespace;"⟩ : MethodName)) hown (mvT hZ (ow1 hw)) (mvT hZ (ow2 hw)) (mvT hZ (ow3 hw)) (mvT hZ (ow4 hw)) (by decide) (backOf (W := 0) (rmpick l Z a0 hw [] i w_SUBJECT w_ORG w_RESOURCE w_EVENT w_ENV w_VAR w_BIND h0 n0 O0 S_SUBJECT S_ORG S_RESOURCE S_EVENT S_ENV S_VAR S_BIND) hZ (ow4 hw) (ow3 hw) (by decide) (by decide)) (g := (mkF m 9 #[.val (.int x0), .val (.int i), .unset, .unset, .unset, .unset] [(.int i)])) rfl (by rw [hml]; rfl) (argsL := [(.int i)]) (rest := []) (lenOf pd0 rfl) rfl (by show 2 * 0 + _ ≤ _; exact Nat.le_of_eq rfl) (hb hby at_9) (fun _ _ => ⟨rfl, e0, (by decide : 0 + 0 ≤ _), (by decide : 0 + 0 ≤ _)⟩)
  dsimp only [Pt.U, Pt.locs, Pt.cells, Pt.slots] at X3 l3 y3 z3 st3 hQ3
  subst l3 y3 z3
  obtain ⟨rfl, Nq3, eq3⟩ := hQ3
  have N4 := Fr.app N0 Nq3
  have pre5 : ∀ tgt, Steps p.tables e below (T3.setTop (mkF m 15 #[.val (.int x0), .val (.int i), .val (.ref (pk i w_SUBJECT w_ORG w_RESOURCE w_EVENT w_ENV w_VAR w_BIND)), .unset, .unset, .unset] [(.int (2 : Int32)), (.int i)])) tgt → Steps p.tables e below (s₁.setTop (entryFrame m #[(.int x0)] maxLocals)) tgt := by
    intro tgt kgo
    refine pre2 _ ?_
    refine XS.iloadN X0.here hx rfl (hb hby at_8) rfl ?_
    show Steps p.tables e below (s₁.setTop (mkF m 9 #[.val (.int x0), .val (.int i), .unset, .unset, .unset, .unset] [(.int i)])) _
    refine st3 _ ?_
    show Steps p.tables e below (T3.setTop (mkF m 12 #[.val (.int x0), .val (.int i), .unset, .unset, .unset, .unset] [(.ref (pk i w_SUBJECT w_ORG w_RESOURCE w_EVENT w_ENV w_VAR w_BIND))])) _
    refine XS.astoreN X3.here hx rfl (hb hby at_12) rfl rfl (l' := #[.val (.int x0), .val (.int i), .val (.ref (pk i w_SUBJECT w_ORG w_RESOURCE w_EVENT w_ENV w_VAR w_BIND)), .unset, .unset, .unset]) rfl ?_
    show Steps p.tables e below (T3.setTop (mkF m 13 #[.val (.int x0), .val (.int i), .val (.ref (pk i w_SUBJECT w_ORG w_RESOURCE w_EVENT w_ENV w_VAR w_BIND)), .unset, .unset, .unset] [])) _
    refine XS.iloadN X3.here hx rfl (hb hby at_13) rfl ?_
    show Steps p.tables e below (T3.setTop (mkF m 14 #[.val (.int x0), .val (.int i), .val (.ref (pk i w_SUBJECT w_ORG w_RESOURCE w_EVENT w_ENV w_VAR w_BIND)), .unset, .unset, .unset] [(.int i)])) _
    refine XS.iconst X3.here hx rfl (hb hby at_14) ?_
    show Steps p.tables e below (T3.setTop (mkF m 15 #[.val (.int x0), .val (.int i), .val (.ref (pk i w_SUBJECT w_ORG w_RESOURCE w_EVENT w_ENV w_VAR w_BIND)), .unset, .unset, .unset] [(.int (2 : Int32)), (.int i)])) _
    exact kgo
  obtain ⟨T6, lo6, z, X6, e6, N6, hz, pre6⟩ : ∃ (T' : State) (lo6 : List Loc) (z : Int32), Stand p l e room_1 s m #[(.int x0)] below meth c T' lo6 0 0 ∧ T'.heap = h0 ∧ Fr n0 lo6 ∧ z = (if (2 : Int32) < i then (0 : Int32) else (1 : Int32)) ∧ ∀ tgt, Steps p.tables e below (T'.setTop (mkF m 23 #[.val (.int x0), .val (.int i), .val (.ref (pk i w_SUBJECT w_ORG w_RESOURCE w_EVENT w_ENV w_VAR w_BIND)), .unset, .unset, .unset] [(.int z)])) tgt → Steps p.tables e below (s₁.setTop (entryFrame m #[(.int x0)] maxLocals)) tgt := by
    by_cases hc15_7 : (2 : Int32) < i
    · have pre8 : ∀ tgt, Steps p.tables e below (T3.setTop (mkF m 23 #[.val (.int x0), .val (.int i), .val (.ref (pk i w_SUBJECT w_ORG w_RESOURCE w_EVENT w_ENV w_VAR w_BIND)), .unset, .unset, .unset] [(.int (0 : Int32))])) tgt → Steps p.tables e below (s₁.setTop (entryFrame m #[(.int x0)] maxLocals)) tgt := by
        intro tgt kgo
        refine pre5 _ ?_
        refine XS.icmpYes X3.here hx rfl (pc0 := 15) (pc' := 22) rfl (hb hby at_15) rfl (tlt hc15_7).2.2.1 (by decide) (by decide) ?_
        show Steps p.tables e below (T3.setTop (mkF m 22 #[.val (.int x0), .val (.int i), .val (.ref (pk i w_SUBJECT w_ORG w_RESOURCE w_EVENT w_ENV w_VAR w_BIND)), .unset, .unset, .unset] [])) _
        refine XS.iconst X3.here hx rfl (hb hby at_22) ?_
        show Steps p.tables e below (T3.setTop (mkF m 23 #[.val (.int x0), .val (.int i), .val (.ref (pk i w_SUBJECT w_ORG w_RESOURCE w_EVENT w_ENV w_VAR w_BIND)), .unset, .unset, .unset] [(.int (0 : Int32))])) _
        exact kgo
      exact ⟨T3, _, (0 : Int32), X3, eq3, N4, (by simp only [if_pos hc15_7]), pre8⟩
    · have pre9 : ∀ tgt, Steps p.tables e below (T3.setTop (mkF m 23 #[.val (.int x0), .val (.int i), .val (.ref (pk i w_SUBJECT w_ORG w_RESOURCE w_EVENT w_ENV w_VAR w_BIND)), .unset, .unset, .unset] [(.int (1 : Int32))])) tgt → Steps p.tables e below (s₁.setTop (entryFrame m #[(.int x0)] maxLocals)) tgt := by
        intro tgt kgo
        refine pre5 _ ?_
        refine XS.icmpNo X3.here hx rfl (hb hby at_15) rfl (flt hc15_7).2.2.1 ?_
        show Steps p.tables e below (T3.setTop (mkF m 18 #[.val (.int x0), .val (.int i), .val (.ref (pk i w_SUBJECT w_ORG w_RESOURCE w_EVENT w_ENV w_VAR w_BIND)), .unset, .unset, .unset] [])) _
        refine XS.iconst X3.here hx rfl (hb hby at_18) ?_
        show Steps p.tables e below (T3.setTop (mkF m 19 #[.val (.int x0), .val (.int i), .val (.ref (pk i w_SUBJECT w_ORG w_RESOURCE w_EVENT w_ENV w_VAR w_BIND)), .unset, .unset, .unset] [(.int (1 : Int32))])) _
        refine XS.goto X3.here hx rfl (pc0 := 19) (pc' := 23) rfl (hb hby at_19) (by decide) (by decide) ?_
        show Steps p.tables e below (T3.setTop (mkF m 23 #[.val (.int x0), .val (.int i), .val (.ref (pk i w_SUBJECT w_ORG w_RESOURCE w_EVENT w_ENV w_VAR w_BIND)), .unset, .unset, .unset] [(.int (1 : Int32))])) _
        exact kgo
      exact ⟨T3, _, (1 : Int32), X3, eq3, N4, (by simp only [if_neg hc15_7]), pre9⟩
  obtain ⟨cq10, kq10, q10a, q10b, q10c⟩ := isOf hZ e6 ((own_pkE i E_SUBJECT E_ORG E_RESOURCE E_EVENT E_ENV E_VAR E_BIND).ext O0.2)
  obtain ⟨_, _, ⟨T10, L10, k10, n10⟩, -, X10, ⟨Lc10, hQ10, l10, y10, z10⟩, st10⟩ := X6.virtualBack hx (y := (⟨"com/example/verdictd/verdictd/Namespace", "holdsAttributes", "()Z"⟩ : MethodName)) (z := (⟨"com/example/verdictd/verdictd/Namespace", "holdsAttributes", "()Z"⟩ : MethodName)) hown (mvT hZ (ow8 hw)) (mvT hZ (ow9 hw)) (notFace_of_selects (args := #[]) (mvT hZ (ow11 hw))) (mvT hZ (ow11 hw)) (mvT hZ (ow10 hw)) (by decide) (backOf (W := 0) (rmhol l Z a0 hw [] (pk i w_SUBJECT w_ORG w_RESOURCE w_EVENT w_ENV w_VAR w_BIND) (pk i (.ref w_SUBJECT_collection) (.ref w_ORG_collection) (.ref w_RESOURCE_collection) .null .null .null .null : Value) h0 n0 O0 (own_cvr i w_SUBJECT_collection w_ORG_collection w_RESOURCE_collection) ((own_pkF i F_SUBJECT_collection F_ORG_collection F_RESOURCE_collection F_EVENT_collection F_ENV_collection F_VAR_collection F_BIND_collection).ext O0.2)) hZ (ow12 hw) (ow6 hw) (by decide) (by decide)) q10a q10c (g := (mkF m 25 #[.val (.int x0), .val (.int i), .val (.ref (pk i w_SUBJECT w_ORG w_RESOURCE w_EVENT w_ENV w_VAR w_BIND)), .val (.int z), .unset, .unset] [(.ref (pk i w_SUBJECT w_ORG w_RESOURCE w_EVENT w_ENV w_VAR w_BIND))])) rfl (by rw [hml]; rfl) (Steps.refl _) (argsL := []) (rest := []) (lenOf pd1 rfl) rfl (by show 2 * 0 + _ ≤ _; exact Nat.le_of_eq rfl) (hb hby at_25) (fun _ _ => ⟨rfl, e6, (by decide : 0 + 0 ≤ _), (by decide : 0 + 0 ≤ _)⟩)
  dsimp only [Pt.U, Pt.locs, Pt.cells, Pt.slots] at X10 l10 y10 z10 st10 hQ10
  subst l10 y10 z10
  obtain ⟨rfl, Nq10, eq10⟩ := hQ10
  have N11 := Fr.app N6 Nq10
  have pre12 : ∀ tgt, Steps p.tables e below (T10.setTop (mkF m 30 #[.val (.int x0), .val (.int i), .val (.ref (pk i w_SUBJECT w_ORG w_RESOURCE w_EVENT w_ENV w_VAR w_BIND)), .val (.int z), .val (.int (ha (pk i (.ref w_SUBJECT_collection) (.ref w_ORG_collection) (.ref w_RESOURCE_collection) .null .null .null .null : Value))), .unset] [])) tgt → Steps p.tables e below (s₁.setTop (entryFrame m #[(.int x0)] maxLocals)) tgt := by
    intro tgt kgo
    refine pre6 _ ?_
    refine XS.istoreN X6.here hx rfl (hb hby at_23) rfl (l' := #[.val (.int x0), .val (.int i), .val (.ref (pk i w_SUBJECT w_ORG w_RESOURCE w_EVENT w_ENV w_VAR w_BIND)), .val (.int z), .unset, .unset]) rfl ?_
    show Steps p.tables e below (T6.setTop (mkF m 24 #[.val (.int x0), .val (.int i), .val (.ref (pk i w_SUBJECT w_ORG w_RESOURCE w_EVENT w_ENV w_VAR w_BIND)), .val (.int z), .unset, .unset] [])) _
    refine XS.aloadN X6.here hx rfl (hb hby at_24) rfl rfl ?_
    show Steps p.tables e below (T6.setTop (mkF m 25 #[.val (.int x0), .val (.int i), .val (.ref (pk i w_SUBJECT w_ORG w_RESOURCE w_EVENT w_ENV w_VAR w_BIND)), .val (.int z), .unset, .unset] [(.ref (pk i w_SUBJECT w_ORG w_RESOURCE w_EVENT w_ENV w_VAR w_BIND))])) _
    refine st10.trans ?_
    show Steps p.tables e below (T10.setTop (mkF m 28 #[.val (.int x0), .val (.int i), .val (.ref (pk i w_SUBJECT w_ORG w_RESOURCE w_EVENT w_ENV w_VAR w_BIND)), .val (.int z), .unset, .unset] [(.int (ha (pk i (.ref w_SUBJECT_collection) (.ref w_ORG_collection) (.ref w_RESOURCE_collection) .null .null .null .null : Value)))])) _
    refine XS.istore X10.here hx rfl (hb hby at_28) rfl (l' := #[.val (.int x0), .val (.int i), .val (.ref (pk i w_SUBJECT w_ORG w_RESOURCE w_EVENT w_ENV w_VAR w_BIND)), .val (.int z), .val (.int (ha (pk i (.ref w_SUBJECT_collection) (.ref w_ORG_collection) (.ref w_RESOURCE_collection) .null .null .null .null : Value))), .unset]) rfl ?_
    show Steps p.tables e below (T10.setTop (mkF m 30 #[.val (.int x0), .val (.int i), .val (.ref (pk i w_SUBJECT w_ORG w_RESOURCE w_EVENT w_ENV w_VAR w_BIND)), .val (.int z), .val (.int (ha (pk i (.ref w_SUBJECT_collection) (.ref w_ORG_collection) (.ref w_RESOURCE_collection) .null .null .null .null : Value))), .unset] [])) _
    exact kgo
  obtain ⟨got, hgot⟩ : ∃ z, z = (ha (pk i (.ref w_SUBJECT_collection) (.ref w_ORG_collection) (.ref w_RESOURCE_collection) .null .null .null .null : Value)) := ⟨_, rfl⟩
  have pre13 : ∀ tgt, Steps p.tables e below (T10.setTop (mkF m 30 #[.val (.int x0), .val (.int i), .val (.ref (pk i w_SUBJECT w_ORG w_RESOURCE w_EVENT w_ENV w_VAR w_BIND)), .val (.int z), .val (.int got), .unset] [])) tgt → Steps p.tables e below (s₁.setTop (entryFrame m #[(.int x0)] maxLocals)) tgt := by
    rw [hgot]; exact pre12
  obtain ⟨cq14, kq14, q14a, q14b, q14c⟩ := isOf hZ eq10 ((own_pkE i E_SUBJECT E_ORG E_RESOURCE E_EVENT E_ENV E_VAR E_BIND).ext O0.2)
  obtain ⟨_, _, ⟨T14, L14, k14, n14⟩, -, X14, ⟨Lc14, hQ14, l14, y14, z14⟩, st14⟩ := X10.virtualBack hx (y := (⟨"com/example/verdictd/verdictd/Namespace", "collection", "()Ljava/lang/String;"⟩ : MethodName)) (z := (⟨"com/example/verdictd/verdictd/Namespace", "collection", "()Ljava/lang/String;"⟩ : MethodName)) hown (mvT hZ (ow15 hw)) (mvT hZ (ow16 hw)) (notFace_of_selects (args := #[]) (mvT hZ (ow18 hw))) (mvT hZ (ow18 hw)) (mvT hZ (ow17 hw)) (by decide) (backOf (W := 0) (rmcol l Z a0 hw [] (pk i w_SUBJECT w_ORG w_RESOURCE w_EVENT w_ENV w_VAR w_BIND) (pk i (.ref w_SUBJECT_collection) (.ref w_ORG_collection) (.ref w_RESOURCE_collection) .null .null .null .null : Value) h0 n0 O0 (own_cvr i w_SUBJECT_collection w_ORG_collection w_RESOURCE_collection) ((own_pkF i F_SUBJECT_collection F_ORG_collection F_RESOURCE_collection F_EVENT_collection F_ENV_collection F_VAR_collection F_BIND_collection).ext O0.2)) hZ (ow19 hw) (ow6 hw) (by decide) (by decide)) q14a q14c (g := (mkF m 31 #[.val (.int x0), .val (.int i), .val (.ref (pk i w_SUBJECT w_ORG w_RESOURCE w_EVENT w_ENV w_VAR w_BIND)), .val (.int z), .val (.int got), .unset] [(.ref (pk i w_SUBJECT w_ORG w_RESOURCE w_EVENT w_ENV w_VAR w_BIND))])) rfl (by rw [hml]; rfl) (Steps.refl _) (argsL := []) (rest := []) (lenOf pd2 rfl) rfl (by show 2 * 0 + _ ≤ _; exact Nat.le_of_eq rfl) (hb hby at_31) (fun _ _ => ⟨rfl, eq10, (by decide : 0 + 0 ≤ _), (by decide : 0 + 0 ≤ _)⟩)
  dsimp only [Pt.U, Pt.locs, Pt.cells, Pt.slots] at X14 l14 y14 z14 st14 hQ14
  subst l14 y14 z14
  obtain ⟨rfl, Nq14, eq14⟩ := hQ14
  have N15 := Fr.app N11 Nq14
  have pre16 : ∀ tgt, Steps p.tables e below (T14.setTop (mkF m 34 #[.val (.int x0), .val (.int i), .val (.ref (pk i w_SUBJECT w_ORG w_RESOURCE w_EVENT w_ENV w_VAR w_BIND)), .val (.int z), .val (.int got), .unset] [(pk i (.ref w_SUBJECT_collection) (.ref w_ORG_collection) (.ref w_RESOURCE_collection) .null .null .null .null : Value)])) tgt → Steps p.tables e below (s₁.setTop (entryFrame m #[(.int x0)] maxLocals)) tgt := by
    intro tgt kgo
    refine pre13 _ ?_
    refine XS.aloadN X10.here hx rfl (hb hby at_30) rfl rfl ?_
    show Steps p.tables e below (T10.setTop (mkF m 31 #[.val (.int x0), .val (.int i), .val (.ref (pk i w_SUBJECT w_ORG w_RESOURCE w_EVENT w_ENV w_VAR w_BIND)), .val (.int z), .val (.int got), .unset] [(.ref (pk i w_SUBJECT w_ORG w_RESOURCE w_EVENT w_ENV w_VAR w_BIND))])) _
    refine st14.trans ?_
    show Steps p.tables e below (T14.setTop (mkF m 34 #[.val (.int x0), .val (.int i), .val (.ref (pk i w_SUBJECT w_ORG w_RESOURCE w_EVENT w_ENV w_VAR w_BIND)), .val (.int z), .val (.int got), .unset] [(pk i (.ref w_SUBJECT_collection) (.ref w_ORG_collection) (.ref w_RESOURCE_collection) .null .null .null .null : Value)])) _
    exact kgo
  obtain ⟨T17, lo17, z2, X17, e17, N17, hz2, pre17⟩ : ∃ (T' : State) (lo17 : List Loc) (z2 : Int32), Stand p l e room_1 s m #[(.int x0)] below meth c T' lo17 0 0 ∧ T'.heap = h0 ∧ Fr n0 lo17 ∧ z2 = (if (pk i (.ref w_SUBJECT_collection) (.ref w_ORG_collection) (.ref w_RESOURCE_collection) .null .null .null .null : Value) = Value.null then (0 : Int32) else (1 : Int32)) ∧ ∀ tgt, Steps p.tables e below (T'.setTop (mkF m 42 #[.val (.int x0), .val (.int i), .val (.ref (pk i w_SUBJECT w_ORG w_RESOURCE w_EVENT w_ENV w_VAR w_BIND)), .val (.int z), .val (.int got), .unset] [(.int z2)])) tgt → Steps p.tables e below (s₁.setTop (entryFrame m #[(.int x0)] maxLocals)) tgt := by
    rcases ref_cases (own_cvr i w_SUBJECT_collection w_ORG_collection w_RESOURCE_collection) with hv18 | ⟨av18, hv18⟩
    · have pre19 : ∀ tgt, Steps p.tables e below (T14.setTop (mkF m 34 #[.val (.int x0), .val (.int i), .val (.ref (pk i w_SUBJECT w_ORG w_RESOURCE w_EVENT w_ENV w_VAR w_BIND)), .val (.int z), .val (.int got), .unset] [.null])) tgt → Steps p.tables e below (s₁.setTop (entryFrame m #[(.int x0)] maxLocals)) tgt := by
        have q := pre16
        rw [hv18] at q
        exact q
      have pre20 : ∀ tgt, Steps p.tables e below (T14.setTop (mkF m 42 #[.val (.int x0), .val (.int i), .val (.ref (pk i w_SUBJECT w_ORG w_RESOURCE w_EVENT w_ENV w_VAR w_BIND)), .val (.int z), .val (.int got), .unset] [(.int (0 : Int32))])) tgt → Steps p.tables e below (s₁.setTop (entryFrame m #[(.int x0)] maxLocals)) tgt := by
        intro tgt kgo
        refine pre19 _ ?_
        refine XS.ifnullYes X14.here hx rfl (pc0 := 34) (pc' := 41) rfl (hb hby at_34) rfl (by decide) (by decide) ?_
        show Steps p.tables e below (T14.setTop (mkF m 41 #[.val (.int x0), .val (.int i), .val (.ref (pk i w_SUBJECT w_ORG w_RESOURCE w_EVENT w_ENV w_VAR w_BIND)), .val (.int z), .val (.int got), .unset] [])) _
        refine XS.iconst X14.here hx rfl (hb hby at_41) ?_
        show Steps p.tables e below (T14.setTop (mkF m 42 #[.val (.int x0), .val (.int i), .val (.ref (pk i w_SUBJECT w_ORG w_RESOURCE w_EVENT w_ENV w_VAR w_BIND)), .val (.int z), .val (.int got), .unset] [(.int (0 : Int32))])) _
        exact kgo
      exact ⟨T14, _, (0 : Int32), X14, eq14, N15, (by simp only [if_pos hv18]), pre20⟩
    · have pre21 : ∀ tgt, Steps p.tables e below (T14.setTop (mkF m 34 #[.val (.int x0), .val (.int i), .val (.ref (pk i w_SUBJECT w_ORG w_RESOURCE w_EVENT w_ENV w_VAR w_BIND)), .val (.int z), .val (.int got), .unset] [(.ref av18)])) tgt → Steps p.tables e below (s₁.setTop (entryFrame m #[(.int x0)] maxLocals)) tgt := by
        have q := pre16
        rw [hv18] at q
        exact q
      have pre22 : ∀ tgt, Steps p.tables e below (T14.setTop (mkF m 42 #[.val (.int x0), .val (.int i), .val (.ref (pk i w_SUBJECT w_ORG w_RESOURCE w_EVENT w_ENV w_VAR w_BIND)), .val (.int z), .val (.int got), .unset] [(.int (1 : Int32))])) tgt → Steps p.tables e below (s₁.setTop (entryFrame m #[(.int x0)] maxLocals)) tgt := by
        intro tgt kgo
        refine pre21 _ ?_
        refine XS.ifnullNo X14.here hx rfl (hb hby at_34) rfl ?_
        show Steps p.tables e below (T14.setTop (mkF m 37 #[.val (.int x0), .val (.int i), .val (.ref (pk i w_SUBJECT w_ORG w_RESOURCE w_EVENT w_ENV w_VAR w_BIND)), .val (.int z), .val (.int got), .unset] [])) _
        refine XS.iconst X14.here hx rfl (hb hby at_37) ?_
        show Steps p.tables e below (T14.setTop (mkF m 38 #[.val (.int x0), .val (.int i), .val (.ref (pk i w_SUBJECT w_ORG w_RESOURCE w_EVENT w_ENV w_VAR w_BIND)), .val (.int z), .val (.int got), .unset] [(.int (1 : Int32))])) _
        refine XS.goto X14.here hx rfl (pc0 := 38) (pc' := 42) rfl (hb hby at_38) (by decide) (by decide) ?_
        show Steps p.tables e below (T14.setTop (mkF m 42 #[.val (.int x0), .val (.int i), .val (.ref (pk i w_SUBJECT w_ORG w_RESOURCE w_EVENT w_ENV w_VAR w_BIND)), .val (.int z), .val (.int got), .unset] [(.int (1 : Int32))])) _
        exact kgo
      exact ⟨T14, _, (1 : Int32), X14, eq14, N15, (by simp only [if_neg (own_nn hv18)]), pre22⟩
  obtain ⟨fs, hretL, hrun, hended, hW, hsame⟩ := X17.leave (v := some (.int (1 : Int32))) (fun h => by rw [Bd.returns] at h; cases h)
  refine ⟨_, _, pre17 _ ?_, hrun, hended, _, _, rfl, ?_, ⟨_, rfl⟩, hW, hsame.mono (by decide) (by decide)⟩
  · refine XS.istore X17.here hx rfl (hb hby at_42) rfl (l' := #[.val (.int x0), .val (.int i), .val (.ref (pk i w_SUBJECT w_ORG w_RESOURCE w_EVENT w_ENV w_VAR w_BIND)), .val (.int z), .val (.int got), .val (.int z2)]) rfl ?_
    show Steps p.tables e below (T17.setTop (mkF m 44 #[.val (.int x0), .val (.int i), .val (.ref (pk i w_SUBJECT w_ORG w_RESOURCE w_EVENT w_ENV w_VAR w_BIND)), .val (.int z), .val (.int got), .val (.int z2)] [])) _
    refine XS.iload X17.here hx rfl (hb hby at_44) rfl ?_
    show Steps p.tables e below (T17.setTop (mkF m 46 #[.val (.int x0), .val (.int i), .val (.ref (pk i w_SUBJECT w_ORG w_RESOURCE w_EVENT w_ENV w_VAR w_BIND)), .val (.int z), .val (.int got), .val (.int z2)] [(.int got)])) _
    refine XS.iloadN X17.here hx rfl (hb hby at_46) rfl ?_
    show Steps p.tables e below (T17.setTop (mkF m 47 #[.val (.int x0), .val (.int i), .val (.ref (pk i w_SUBJECT w_ORG w_RESOURCE w_EVENT w_ENV w_VAR w_BIND)), .val (.int z), .val (.int got), .val (.int z2)] [(.int z), (.int got)])) _
    refine XS.icmpNo X17.here hx rfl (hb hby at_47) rfl (teq (hgot.trans (own_law1 hi hz))).2 ?_
    show Steps p.tables e below (T17.setTop (mkF m 50 #[.val (.int x0), .val (.int i), .val (.ref (pk i w_SUBJECT w_ORG w_RESOURCE w_EVENT w_ENV w_VAR w_BIND)), .val (.int z), .val (.int got), .val (.int z2)] [])) _
    refine XS.iload X17.here hx rfl (hb hby at_50) rfl ?_
    show Steps p.tables e below (T17.setTop (mkF m 52 #[.val (.int x0), .val (.int i), .val (.ref (pk i w_SUBJECT w_ORG w_RESOURCE w_EVENT w_ENV w_VAR w_BIND)), .val (.int z), .val (.int got), .val (.int z2)] [(.int got)])) _
    refine XS.iload X17.here hx rfl (hb hby at_52) rfl ?_
    show Steps p.tables e below (T17.setTop (mkF m 54 #[.val (.int x0), .val (.int i), .val (.ref (pk i w_SUBJECT w_ORG w_RESOURCE w_EVENT w_ENV w_VAR w_BIND)), .val (.int z), .val (.int got), .val (.int z2)] [(.int z2), (.int got)])) _
    refine XS.icmpNo X17.here hx rfl (hb hby at_54) rfl (teq (hgot.trans hz2.symm)).2 ?_
    show Steps p.tables e below (T17.setTop (mkF m 57 #[.val (.int x0), .val (.int i), .val (.ref (pk i w_SUBJECT w_ORG w_RESOURCE w_EVENT w_ENV w_VAR w_BIND)), .val (.int z), .val (.int got), .val (.int z2)] [])) _
    refine XS.iconst X17.here hx rfl (hb hby at_57) ?_
    show Steps p.tables e below (T17.setTop (mkF m 58 #[.val (.int x0), .val (.int i), .val (.ref (pk i w_SUBJECT w_ORG w_RESOURCE w_EVENT w_ENV w_VAR w_BIND)), .val (.int z), .val (.int got), .val (.int z2)] [(.int (1 : Int32))])) _
    refine XS.goto X17.here hx rfl (pc0 := 58) (pc' := 62) rfl (hb hby at_58) (by decide) (by decide) ?_
    show Steps p.tables e below (T17.setTop (mkF m 62 #[.val (.int x0), .val (.int i), .val (.ref (pk i w_SUBJECT w_ORG w_RESOURCE w_EVENT w_ENV w_VAR w_BIND)), .val (.int z), .val (.int got), .val (.int z2)] [(.int (1 : Int32))])) _
    exact retOut X17 hx Bd.returns rfl (Or.inl ⟨rfl, Or.inr (Or.inl rfl), _, rfl⟩) (hb hby at_62) hretL
  · show Q_rm0 Z x0 w_SUBJECT w_EVENT w_VAR w_BIND w_ENV w_RESOURCE w_ORG w_SUBJECT_collection w_RESOURCE_collection w_ORG_collection h0 n0 _ T17.heap _
    rw [e17]
    exact ⟨rfl, N17⟩
set_option maxRecDepth 65536 in
set_option maxHeartbeats 40000000 in
theorem comes_1 {Post : Tables → Env → Array Value → State → Outcome → State → Prop} (hpost : ∀ tb e args s v u, (limb_1_1.after args s (.returned v) u = true ∧ limb_1_2.after args s (.returned v) u = true ∧ True) → FrameEnd s (.returned v) u (Jvm.fieldLocs frame_1_writes args s ++ Jvm.arrayLocs frame_1_arrays args s ++ Jvm.staticLocs frame_1_statics s) 0 0 → Post tb e args s (.returned v) u) :
    ArmFor flags0 classFile x code maxLocals ret World_1 tables_1 room_1 Calls_1 rest_1 Pre_1 Post := by
  intro l hfl _ _ p e ha hc hk s m args below hf hA hF happ hP
  obtain ⟨hcalls, hrest, hpre⟩ := hP
  obtain ⟨-, -, -, hnamed, -, -, -, hat⟩ := (Spec.applies_iff hf).mp happ
  obtain ⟨hg, hn⟩ := and_e (Cond.before_iff.mp (show (Jvm.Cond.and given_1 narrow_1).before args s = true from hpre))
  obtain ⟨u1, v1⟩ := and_e hg
  obtain ⟨w0, rfl⟩ : ∃ w0 : Value, args = #[w0] := by
    have hs : args.size = 1 := by simpa [Cond.value, given_1] using u1
    obtain ⟨L⟩ := args
    match L, hs with
    | [w0], _ => exact ⟨w0, rfl⟩
  have hw := fun d (hd : d ∈ tables_1) => atoms_spec (ws := Jvm.Cond.code x code maxLocals ret :: tables_1) hat d (List.mem_cons_of_mem _ hd)
  have hfit : Fit s := fun {y c} hc i hi => by
    obtain ⟨ha, rfl⟩ := Array.getElem?_eq_some_iff.mp hc
    have q := List.all_eq_true.mp ((Array.all_eq_true_iff_forall_mem.mp hF) _ (Array.getElem_mem ha)) i (List.mem_range.mpr hi)
    simpa [Array.getElem?_eq_getElem hi] using q
  obtain ⟨i0, ei0⟩ := is_v v1
  obtain rfl : w0 = (.int i0) := Option.some.inj ei0
  obtain ⟨nu1, nv1⟩ := and_e hn
  obtain ⟨nu2, nv2⟩ := and_e nv1
  obtain ⟨nu3, nv3⟩ := and_e nv2
  obtain ⟨nu4, nv4⟩ := and_e nv3
  obtain ⟨nu5, nv5⟩ := and_e nv4
  obtain ⟨nu6, nv6⟩ := and_e nv5
  obtain ⟨nu7, nv7⟩ := and_e nv6
  obtain ⟨nu8, nv8⟩ := and_e nv7
  obtain ⟨nu9, nv9⟩ := and_e nv8
  obtain ⟨nu10, nv10⟩ := and_e nv9
  obtain ⟨nu11, nv11⟩ := and_e nv10
  obtain ⟨nu12, nv12⟩ := and_e nv11
  obtain ⟨nu13, nv13⟩ := and_e nv12
  obtain ⟨w_SUBJECT, S_SUBJECT, E_SUBJECT, ev_SUBJECT⟩ := own_sta nu1 (ow6 hw) (ow7 hw)
  obtain ⟨w_EVENT, S_EVENT, E_EVENT, ev_EVENT⟩ := own_sta nu3 (ow6 hw) (ow21 hw)
  obtain ⟨w_VAR, S_VAR, E_VAR, ev_VAR⟩ := own_sta nu5 (ow6 hw) (ow23 hw)
  obtain ⟨w_BIND, S_BIND, E_BIND, ev_BIND⟩ := own_sta nu7 (ow6 hw) (ow25 hw)
  obtain ⟨w_ENV, S_ENV, E_ENV, ev_ENV⟩ := own_sta nu9 (ow6 hw) (ow27 hw)
  obtain ⟨w_RESOURCE, S_RESOURCE, E_RESOURCE, ev_RESOURCE⟩ := own_sta nu11 (ow6 hw) (ow29 hw)
  obtain ⟨w_ORG, S_ORG, E_ORG, ev_ORG⟩ := own_sta nu13 (ow6 hw) (ow31 hw)
  obtain ⟨w_SUBJECT_collection, F_SUBJECT_collection, E_SUBJECT_collection, ev_SUBJECT_collection⟩ := own_fexa ev_SUBJECT nu2
  obtain ⟨w_RESOURCE_collection, F_RESOURCE_collection, E_RESOURCE_collection, ev_RESOURCE_collection⟩ := own_fexa ev_RESOURCE nu12
  obtain ⟨w_ORG_collection, F_ORG_collection, E_ORG_collection, ev_ORG_collection⟩ := own_fexa ev_ORG nv13
  have F_EVENT_collection := own_fnull ev_EVENT nu4
  have F_VAR_collection := own_fnull ev_VAR nu6
  have F_BIND_collection := own_fnull ev_BIND nu8
  have F_ENV_collection := own_fnull ev_ENV nu10
  obtain ⟨n, o, h1, h2, h3, _, L, rfl, ⟨rfl, N⟩, hq⟩ := rm0 l s _ hw tables_1 i0 w_SUBJECT w_EVENT w_VAR w_BIND w_ENV w_RESOURCE w_ORG w_SUBJECT_collection w_RESOURCE_collection w_ORG_collection s.heap s.heap.size (Old.start s) S_SUBJECT E_SUBJECT S_EVENT E_EVENT S_VAR E_VAR S_BIND E_BIND S_ENV E_ENV S_RESOURCE E_RESOURCE S_ORG E_ORG F_SUBJECT_collection E_SUBJECT_collection F_RESOURCE_collection E_RESOURCE_collection F_ORG_collection E_ORG_collection F_EVENT_collection F_VAR_collection F_BIND_collection F_ENV_collection p e ha hc hk s m _ below hf ((Spec.applies_iff_loose hf).mp happ).1 ⟨rfl, State.Warmed39.refl s, rfl⟩ trivial
  refine ⟨n, _, h1, h2, h3, hpost _ _ _ _ _ _ ⟨Cond.after_iff.mpr rfl, Cond.after_iff.mpr (eq_i res_at (Term.int_eval (1)) rfl), trivial⟩ ⟨hq.1, hq.2.1, (hq.2.2.sift fun y hy => Or.inr (N y hy)).mono (by decide) (by decide)⟩⟩
theorem main_1_1 : Claimed_1_1 := comes_1 fun _ _ _ _ _ _ h hF => ⟨h.1, hF⟩
theorem main_1_2 : Claimed_1_2 := comes_1 fun _ _ _ _ _ _ h hF => ⟨h.2.1, hF⟩
end Jvm.Pilot.@@N@@
namespace Jvm.Pilot.@@N@@
open Jvm Jvm.ClassFile Sem Op Lib Jvm.Free Jvm.Stand Jvm.Pilot.@@N@@.Jvm.D
/-! MADE BY PROGRAM (witnessworld.py) out of the Statement's table words and the real class files: 15 classes; the members and pool entries that the words name. The judged class is class 1, her method 2. -/
namespace start1
open Jvm.ClassFile
def u (s : String) : CpInfo := .utf8 (stringToUtf16 s)
/-- a pool by its gaps: so many unusable entries, then the entry; so many at the end -/
def gap : Nat → List CpInfo → List CpInfo
  | 0, r => r
  | n + 1, r => .unusable :: gap n r
def poolList (es : List (Nat × CpInfo)) (last : Nat) : List CpInfo := es.foldr (fun e r => gap e.1 (e.2 :: r)) (gap last [])
def pool (es : List (Nat × CpInfo)) (last : Nat) : Array CpInfo := ⟨poolList es last⟩
def fileOf (pool : Array CpInfo) (this : Nat) (attrs : Array Attribute := #[]) (ms : Array MethodInfo := #[]) (fl : Nat := 33) (sup : Nat := 0) (ifs : Array Nat := #[]) (fds : Array FieldInfo := #[]) : ClassFile where
  minorVersion := 0
  majorVersion := 65
  constantPool := pool
  accessFlags := fl
  thisClass := this
  superClass := sup
  interfaces := ifs
  fields := fds
  methods := ms
  attributes := attrs
def plain (name : String) (sup : Option ClassId) : Class where
  name := name
  kind := .ordinary
  loader := none
  accessFlags := 33
  super := sup
  interfaces := #[]
  cf := none
  fields := #[]
  methods := #[]
  instanceTypes := #[]
  staticTypes := #[]
  resolved := #[]
  callSites := []
  init := .initialized
  statics := none
  mirror := none

def pool0 : Array CpInfo := pool [(5, u "<init>"), (0, u "()V"), (1, .class_ 10), (1, u "java/lang/Object")] 113

def k0m0 : Method := { name := "<init>", desc := "()V", sig := { parameters := [], returnType := none }, accessFlags := 1, code := none }
/-- java/lang/Object -/
def k0 : Class := { plain "java/lang/Object" none with
  accessFlags := 33
  interfaces := #[]
  cf := some (fileOf pool0 8 #[] #[{ accessFlags := 1, nameIndex := 5, descriptorIndex := 6, attributes := #[] }] 33 0 #[] #[])
  fields := #[]
  methods := #[k0m0]
  instanceTypes := #[]
  staticTypes := #[]
  resolved := Array.replicate 124 none
  statics := none }

def pool1 : Array CpInfo := pool [(2, .class_ 4), (1, u "java/lang/Object"), (0, u "<init>"), (0, u "()V"), (0, .fieldref 8 9), (0, .class_ 10), (0, .nameAndType 11 12), (0, u "com/example/verdictd/verdictd/Namespace"), (0, u "SUBJECT"), (0, u "Lcom/example/verdictd/verdictd/Namespace;"), (0, .fieldref 8 14), (0, .nameAndType 15 12), (0, u "ORG"), (0, .fieldref 8 17), (0, .nameAndType 18 12), (0, u "RESOURCE"), (0, .fieldref 8 20), (0, .nameAndType 21 12), (0, u "EVENT"), (0, .fieldref 8 23), (0, .nameAndType 24 12), (0, u "ENV"), (0, .fieldref 8 26), (0, .nameAndType 27 12), (0, u "VAR"), (0, .fieldref 8 29), (0, .nameAndType 30 12), (0, u "BIND"), (0, .integer 2147483647), (0, .methodref 33 34), (0, .class_ 35), (0, .nameAndType 36 37), (0, u "com/example/verdictd/verdictd/NamespaceHoldsAttributesPinLaw"), (0, u "pick"), (0, u "(I)Lcom/example/verdictd/verdictd/Namespace;"), (0, .methodref 8 39), (0, .nameAndType 40 41), (0, u "holdsAttributes"), (0, u "()Z"), (0, .methodref 8 43), (0, .nameAndType 44 45), (0, u "collection"), (0, u "()Ljava/lang/String;"), (3, u "law"), (0, u "(I)Z")] 2

def k1m0 : Method := { name := "<init>", desc := "()V", sig := { parameters := [], returnType := none }, accessFlags := 1, code := none }
def k1c1 : Code := { maxStack := 2, maxLocals := 1, code := method_2_code, exceptionTable := #[], attributes := #[] }
def k1m1 : Method := { name := "pick", desc := "(I)Lcom/example/verdictd/verdictd/Namespace;", sig := { parameters := [.int], returnType := some (.object "com/example/verdictd/verdictd/Namespace") }, accessFlags := 10, code := some k1c1 }
def k1c2 : Code := { maxStack := 2, maxLocals := 6, code := code, exceptionTable := #[], attributes := #[] }
def k1m2 : Method := { name := "law", desc := "(I)Z", sig := { parameters := [.int], returnType := some .boolean }, accessFlags := 9, code := some k1c2 }
/-- com/example/verdictd/verdictd/NamespaceHoldsAttributesPinLaw -/
def k1 : Class := { plain "com/example/verdictd/verdictd/NamespaceHoldsAttributesPinLaw" (some 0) with
  accessFlags := 49
  interfaces := #[]
  cf := some (fileOf pool1 33 #[] #[{ accessFlags := 1, nameIndex := 5, descriptorIndex := 6, attributes := #[] }, { accessFlags := 10, nameIndex := 36, descriptorIndex := 37, attributes := #[] }, { accessFlags := 9, nameIndex := 49, descriptorIndex := 50, attributes := #[] }] 49 2 #[] #[])
  fields := #[]
  methods := #[k1m0, k1m1, k1m2]
  instanceTypes := #[]
  staticTypes := #[]
  resolved := Array.replicate 53 none
  statics := none }

def pool2 : Array CpInfo := pool [(1, .class_ 2), (0, u "java/lang/constant/Constable"), (0, .class_ 4), (0, u "java/lang/Object")] 6

/-- java/lang/constant/Constable -/
def k2 : Class := { plain "java/lang/constant/Constable" (some 0) with
  accessFlags := 1537
  interfaces := #[]
  cf := some (fileOf pool2 1 #[] #[] 1537 3 #[] #[])
  fields := #[]
  methods := #[]
  instanceTypes := #[]
  staticTypes := #[]
  resolved := Array.replicate 11 none
  statics := none }

def pool3 : Array CpInfo := pool [(1, .class_ 2), (0, u "java/lang/Comparable"), (0, .class_ 4), (0, u "java/lang/Object")] 7

/-- java/lang/Comparable -/
def k3 : Class := { plain "java/lang/Comparable" (some 0) with
  accessFlags := 1537
  interfaces := #[]
  cf := some (fileOf pool3 1 #[] #[] 1537 3 #[] #[])
  fields := #[]
  methods := #[]
  instanceTypes := #[]
  staticTypes := #[]
  resolved := Array.replicate 12 none
  statics := none }

def pool4 : Array CpInfo := pool [(1, .class_ 2), (0, u "java/io/Serializable"), (0, .class_ 4), (0, u "java/lang/Object")] 2

/-- java/io/Serializable -/
def k4 : Class := { plain "java/io/Serializable" (some 0) with
  accessFlags := 1537
  interfaces := #[]
  cf := some (fileOf pool4 1 #[] #[] 1537 3 #[] #[])
  fields := #[]
  methods := #[]
  instanceTypes := #[]
  staticTypes := #[]
  resolved := Array.replicate 7 none
  statics := none }

def pool5 : Array CpInfo := pool [(2, .class_ 4), (1, u "java/lang/Enum"), (0, u "name"), (0, u "Ljava/lang/String;"), (2, u "ordinal"), (0, u "I"), (1, .class_ 14), (1, u "java/lang/Object"), (4, u "hash"), (86, .class_ 108), (1, u "java/lang/Enum$EnumDesc"), (2, .class_ 112), (0, u "java/lang/constant/Constable"), (0, .class_ 114), (0, u "java/lang/Comparable"), (0, .class_ 116), (0, u "java/io/Serializable")] 87

/-- java/lang/Enum -/
def k5 : Class := { plain "java/lang/Enum" (some 0) with
  accessFlags := 1057
  interfaces := #[2, 3, 4]
  cf := some (fileOf pool5 2 #[.nestMembers #[106]] #[] 1057 12 #[111, 113, 115] #[{ accessFlags := 18, nameIndex := 5, descriptorIndex := 6, attributes := #[] }, { accessFlags := 18, nameIndex := 9, descriptorIndex := 10, attributes := #[] }, { accessFlags := 2, nameIndex := 19, descriptorIndex := 10, attributes := #[] }])
  fields := #[{ name := "name", type := (.object "java/lang/String"), accessFlags := 18, slot := 0, constantValue := 0 }, { name := "ordinal", type := .int, accessFlags := 18, slot := 1, constantValue := 0 }, { name := "hash", type := .int, accessFlags := 2, slot := 2, constantValue := 0 }]
  methods := #[]
  instanceTypes := #[(.object "java/lang/String"), .int, .int]
  staticTypes := #[]
  resolved := Array.replicate 204 none
  statics := none }

def pool6 : Array CpInfo := pool [(1, .class_ 2), (0, u "com/example/verdictd/verdictd/Namespace"), (2, u "SUBJECT"), (0, u "Lcom/example/verdictd/verdictd/Namespace;"), (2, u "ORG"), (2, u "RESOURCE"), (2, u "EVENT"), (2, u "ENV"), (2, u "VAR"), (2, u "BIND"), (2, u "$VALUES"), (0, u "[Lcom/example/verdictd/verdictd/Namespace;"), (6, .class_ 37), (1, u "java/lang/Enum"), (8, u "prefix"), (0, u "Ljava/lang/String;"), (0, .fieldref 1 49), (0, .nameAndType 50 47), (0, u "collection"), (17, u "holdsAttributes"), (0, u "()Z"), (50, u "()Ljava/lang/String;")] 4

def k6c0 : Code := { maxStack := 1, maxLocals := 1, code := prog_19_method_8_code, exceptionTable := #[], attributes := #[] }
def k6m0 : Method := { name := "collection", desc := "()Ljava/lang/String;", sig := { parameters := [], returnType := some (.object "java/lang/String") }, accessFlags := 0, code := some k6c0 }
def k6c1 : Code := { maxStack := 1, maxLocals := 1, code := prog_19_method_9_code, exceptionTable := #[], attributes := #[] }
def k6m1 : Method := { name := "holdsAttributes", desc := "()Z", sig := { parameters := [], returnType := some .boolean }, accessFlags := 0, code := some k6c1 }
/-- com/example/verdictd/verdictd/Namespace -/
def k6 : Class := { plain "com/example/verdictd/verdictd/Namespace" (some 5) with
  accessFlags := 16432
  interfaces := #[]
  cf := some (fileOf pool6 1 #[] #[{ accessFlags := 0, nameIndex := 50, descriptorIndex := 120, attributes := #[] }, { accessFlags := 0, nameIndex := 68, descriptorIndex := 69, attributes := #[] }] 16432 35 #[] #[{ accessFlags := 16409, nameIndex := 5, descriptorIndex := 6, attributes := #[] }, { accessFlags := 16409, nameIndex := 9, descriptorIndex := 6, attributes := #[] }, { accessFlags := 16409, nameIndex := 12, descriptorIndex := 6, attributes := #[] }, { accessFlags := 16409, nameIndex := 15, descriptorIndex := 6, attributes := #[] }, { accessFlags := 16409, nameIndex := 18, descriptorIndex := 6, attributes := #[] }, { accessFlags := 16409, nameIndex := 21, descriptorIndex := 6, attributes := #[] }, { accessFlags := 16409, nameIndex := 24, descriptorIndex := 6, attributes := #[] }, { accessFlags := 18, nameIndex := 46, descriptorIndex := 47, attributes := #[] }, { accessFlags := 18, nameIndex := 50, descriptorIndex := 47, attributes := #[] }, { accessFlags := 4122, nameIndex := 27, descriptorIndex := 28, attributes := #[] }])
  fields := #[{ name := "SUBJECT", type := (.object "com/example/verdictd/verdictd/Namespace"), accessFlags := 16409, slot := 0, constantValue := 0 }, { name := "ORG", type := (.object "com/example/verdictd/verdictd/Namespace"), accessFlags := 16409, slot := 1, constantValue := 0 }, { name := "RESOURCE", type := (.object "com/example/verdictd/verdictd/Namespace"), accessFlags := 16409, slot := 2, constantValue := 0 }, { name := "EVENT", type := (.object "com/example/verdictd/verdictd/Namespace"), accessFlags := 16409, slot := 3, constantValue := 0 }, { name := "ENV", type := (.object "com/example/verdictd/verdictd/Namespace"), accessFlags := 16409, slot := 4, constantValue := 0 }, { name := "VAR", type := (.object "com/example/verdictd/verdictd/Namespace"), accessFlags := 16409, slot := 5, constantValue := 0 }, { name := "BIND", type := (.object "com/example/verdictd/verdictd/Namespace"), accessFlags := 16409, slot := 6, constantValue := 0 }, { name := "prefix", type := (.object "java/lang/String"), accessFlags := 18, slot := 3, constantValue := 0 }, { name := "collection", type := (.object "java/lang/String"), accessFlags := 18, slot := 4, constantValue := 0 }, { name := "$VALUES", type := (.array (.object "com/example/verdictd/verdictd/Namespace")), accessFlags := 4122, slot := 7, constantValue := 0 }]
  methods := #[k6m0, k6m1]
  instanceTypes := #[(.object "java/lang/String"), .int, .int, (.object "java/lang/String"), (.object "java/lang/String")]
  staticTypes := #[(.object "com/example/verdictd/verdictd/Namespace"), (.object "com/example/verdictd/verdictd/Namespace"), (.object "com/example/verdictd/verdictd/Namespace"), (.object "com/example/verdictd/verdictd/Namespace"), (.object "com/example/verdictd/verdictd/Namespace"), (.object "com/example/verdictd/verdictd/Namespace"), (.object "com/example/verdictd/verdictd/Namespace"), (.array (.object "com/example/verdictd/verdictd/Namespace"))]
  resolved := Array.replicate 125 none
  statics := some 0 }

def pool7 : Array CpInfo := pool [(2, .class_ 4), (1, u "java/lang/CharSequence"), (42, .class_ 48), (0, u "java/lang/CharSequence$1CodePointIterator"), (10, .class_ 60), (0, u "java/lang/CharSequence$1CharIterator"), (5, .class_ 67), (0, u "java/lang/Object")] 63

/-- java/lang/CharSequence -/
def k7 : Class := { plain "java/lang/CharSequence" (some 0) with
  accessFlags := 1537
  interfaces := #[]
  cf := some (fileOf pool7 2 #[.nestMembers #[47, 59]] #[] 1537 66 #[] #[])
  fields := #[]
  methods := #[]
  instanceTypes := #[]
  staticTypes := #[]
  resolved := Array.replicate 131 none
  statics := none }

def pool8 : Array CpInfo := pool [(1, .class_ 2), (0, u "java/lang/constant/ConstantDesc"), (0, .class_ 4), (0, u "java/lang/Object")] 32

/-- java/lang/constant/ConstantDesc -/
def k8 : Class := { plain "java/lang/constant/ConstantDesc" (some 0) with
  accessFlags := 1537
  interfaces := #[]
  cf := some (fileOf pool8 1 #[] #[] 1537 3 #[] #[])
  fields := #[]
  methods := #[]
  instanceTypes := #[]
  staticTypes := #[]
  resolved := Array.replicate 37 none
  statics := none }

def pool9 : Array CpInfo := pool [(2, .class_ 4), (1, u "java/lang/Object"), (0, u "<init>"), (0, u "()V"), (3, .class_ 12), (1, u "java/lang/String"), (0, u "value"), (0, u "[B"), (2, u "coder"), (0, u "B"), (2, u "hash"), (0, u "I"), (2, u "hashIsZero"), (0, u "Z"), (13, u "COMPACT_STRINGS"), (534, .class_ 576), (0, u "java/lang/CharSequence"), (22, u "CASE_INSENSITIVE_ORDER"), (0, u "Ljava/util/Comparator;"), (500, u "serialPersistentFields"), (0, u "[Ljava/io/ObjectStreamField;"), (0, .class_ 1104), (0, u "java/lang/String$CaseInsensitiveComparator"), (1, .class_ 1107), (0, u "java/io/Serializable"), (0, .class_ 1109), (0, u "java/lang/Comparable"), (0, .class_ 1111), (0, u "java/lang/constant/Constable"), (0, .class_ 1113), (0, u "java/lang/constant/ConstantDesc"), (2, u "serialVersionUID"), (0, u "J"), (3, u "REPL"), (0, u "C"), (2, u "LATIN1"), (1, u "UTF16")] 323

def k9m0 : Method := { name := "<init>", desc := "()V", sig := { parameters := [], returnType := none }, accessFlags := 1, code := none }
/-- java/lang/String -/
def k9 : Class := { plain "java/lang/String" (some 0) with
  accessFlags := 49
  interfaces := #[4, 3, 7, 2, 8]
  cf := some (fileOf pool9 10 #[.nestMembers #[1103]] #[{ accessFlags := 1, nameIndex := 5, descriptorIndex := 6, attributes := #[] }] 49 2 #[1106, 1108, 575, 1110, 1112] #[{ accessFlags := 18, nameIndex := 13, descriptorIndex := 14, attributes := #[] }, { accessFlags := 18, nameIndex := 17, descriptorIndex := 18, attributes := #[] }, { accessFlags := 2, nameIndex := 21, descriptorIndex := 22, attributes := #[] }, { accessFlags := 2, nameIndex := 25, descriptorIndex := 26, attributes := #[] }, { accessFlags := 26, nameIndex := 1116, descriptorIndex := 1117, attributes := #[] }, { accessFlags := 24, nameIndex := 40, descriptorIndex := 26, attributes := #[] }, { accessFlags := 26, nameIndex := 1101, descriptorIndex := 1102, attributes := #[] }, { accessFlags := 26, nameIndex := 1121, descriptorIndex := 1122, attributes := #[] }, { accessFlags := 25, nameIndex := 599, descriptorIndex := 600, attributes := #[] }, { accessFlags := 24, nameIndex := 1125, descriptorIndex := 18, attributes := #[] }, { accessFlags := 24, nameIndex := 1127, descriptorIndex := 18, attributes := #[] }])
  fields := #[{ name := "value", type := (.array .byte), accessFlags := 18, slot := 0, constantValue := 0 }, { name := "coder", type := .byte, accessFlags := 18, slot := 1, constantValue := 0 }, { name := "hash", type := .int, accessFlags := 2, slot := 2, constantValue := 0 }, { name := "hashIsZero", type := .boolean, accessFlags := 2, slot := 3, constantValue := 0 }, { name := "serialVersionUID", type := .long, accessFlags := 26, slot := 0, constantValue := 0 }, { name := "COMPACT_STRINGS", type := .boolean, accessFlags := 24, slot := 1, constantValue := 0 }, { name := "serialPersistentFields", type := (.array (.object "java/io/ObjectStreamField")), accessFlags := 26, slot := 2, constantValue := 0 }, { name := "REPL", type := .char, accessFlags := 26, slot := 3, constantValue := 0 }, { name := "CASE_INSENSITIVE_ORDER", type := (.object "java/util/Comparator"), accessFlags := 25, slot := 4, constantValue := 0 }, { name := "LATIN1", type := .byte, accessFlags := 24, slot := 5, constantValue := 0 }, { name := "UTF16", type := .byte, accessFlags := 24, slot := 6, constantValue := 0 }]
  methods := #[k9m0]
  instanceTypes := #[(.array .byte), .byte, .int, .boolean]
  staticTypes := #[.long, .boolean, (.array (.object "java/io/ObjectStreamField")), .char, (.object "java/util/Comparator"), .byte, .byte]
  resolved := Array.replicate 1451 none
  statics := none }

def pool10 : Array CpInfo := pool [(1, u "java/lang/Cloneable"), (0, .class_ 1), (0, u "java/lang/Object"), (0, .class_ 3)] 3

/-- java/lang/Cloneable -/
def k10 : Class := { plain "java/lang/Cloneable" (some 0) with
  accessFlags := 1537
  interfaces := #[]
  cf := some (fileOf pool10 2 #[] #[] 1537 4 #[] #[])
  fields := #[]
  methods := #[]
  instanceTypes := #[]
  staticTypes := #[]
  resolved := Array.replicate 8 none
  statics := none }

/-- the primitive byte -/
def k11 : Class := { plain "byte" none with kind := .primitive 'B', accessFlags := 0x411 }
/-- [B -/
def k12 : Class := { plain "[B" (some 0) with kind := .array 11 .byte, interfaces := #[10, 4], accessFlags := 1041 }

/-- the primitive int -/
def k13 : Class := { plain "int" none with kind := .primitive 'I', accessFlags := 0x411 }
/-- [I -/
def k14 : Class := { plain "[I" (some 0) with kind := .array 13 .int, interfaces := #[10, 4], accessFlags := 1041 }

def heap : Heap := #[{ cls := 6, slots := #[.ref 2, .ref 3, .ref 4, .ref 5, .ref 6, .ref 7, .ref 8, .null], vm := .statics 6 },
  { cls := 9, slots := #[.null, .int 0, .int 0, .int 0], vm := .none },
  { cls := 6, slots := #[.null, .int 0, .int 0, .null, .ref 1], vm := .none },
  { cls := 6, slots := #[.null, .int 1, .int 0, .null, .ref 1], vm := .none },
  { cls := 6, slots := #[.null, .int 2, .int 0, .null, .ref 1], vm := .none },
  { cls := 6, slots := #[.null, .int 3, .int 0, .null, .null], vm := .none },
  { cls := 6, slots := #[.null, .int 4, .int 0, .null, .null], vm := .none },
  { cls := 6, slots := #[.null, .int 5, .int 0, .null, .null], vm := .none },
  { cls := 6, slots := #[.null, .int 6, .int 0, .null, .null], vm := .none }]
def classes : Array Class := #[k0, k1, k2, k3, k4, k5, k6, k7, k8, k9, k10, k11, k12, k13, k14]
def interned : List (Array UInt16 × Addr) := []
def slotsUsed : Nat := 47
def theMethod : MethodId := ⟨1, 2⟩
def args0 : Array Value := #[.int 5]
def aboutOver (below : List Frame) : State where
  vm := { classes := classes, interned := interned.toArray }
  heap := heap
  slotsUsed := slotsUsed
  threads := #[{ frames := .invoking theMethod args0 :: below }]
def below0 : List Frame := [.native { method := ⟨0, 0⟩, args := #[] }]
def about1 : State := aboutOver below0
def p0 : Program := .bare "" "" ""
def e0 : Env := launch0.env 0 0 0
theorem w_frames : about1.frames = Frame.invoking theMethod args0 :: below0 := rfl
set_option maxRecDepth 65536 in
theorem w_args : argsFit about1.vm theMethod args0 = true := by decide +kernel
set_option maxRecDepth 65536 in
theorem w_heap : heapFits about1 = true := by decide +kernel
set_option maxRecDepth 65536 in
theorem w_runnable : about1.curStatus? = some .runnable := by decide +kernel
set_option maxRecDepth 65536 in
theorem w_alone : about1.alone = true := by decide +kernel
set_option maxRecDepth 65536 in
theorem w_named : about1.methodNamed? x = some theMethod := by decide +kernel
set_option maxRecDepth 65536 in
theorem w_hears : about1.hears theMethod below0 = true := by decide +kernel
set_option maxRecDepth 65536 in
theorem w_ripe : about1.ripe theMethod args0 below0 = true := by decide +kernel
theorem w_running : about1.status = .running := rfl
set_option maxRecDepth 65536 in
theorem w_room : about1.hasRoom e0.platform room_1 = true :=
  launch0.hasRoom_least _ room_1 (by decide +kernel) (by decide +kernel) (by decide +kernel) (by decide +kernel) (by decide +kernel) (by decide +kernel)
theorem allAtoms_all (ts : List Jvm.Cond) (a : Array Jvm.Value) (st : Jvm.State) : (allAtoms ts).before a st = ts.all (fun c => c.before a st) := by
  induction ts with
  | nil => rfl
  | cons c t ih =>
    show (Jvm.Cond.and c (allAtoms t)).before a st = _
    rw [Jvm.Cond.before_and, ih, List.all_cons]
def words1 : List Jvm.Cond := Jvm.Cond.code x code maxLocals ret :: tables_1
/-- a 'code' word, met by the world's own term for the bytes: nothing is compared byte by byte -/
theorem code_word {y : MethodName} {bytes : ByteArray} {mx : Nat} {rt : Option FieldType} {a : Array Value} {s : State} {m : MethodId} {meth : Method} {c : Code} (h1 : s.methodNamed? y = some m) (h2 : s.vm.method? m = some meth) (h3 : meth.code = some c) (h4 : c.code = bytes)
    (h5 : (c.maxLocals == mx && c.exceptionTable.isEmpty && decide (c.maxStack ≤ mostOperands) && decide (meth.sig.returnType = rt) && !meth.locks && decide (parseMethodDescriptor y.desc = some meth.sig)) = true) : (Jvm.Cond.code y bytes mx rt).before a s = true := by
  simp only [Bool.and_eq_true, beq_iff_eq, Bool.not_eq_true', decide_eq_true_eq] at h5
  obtain ⟨⟨⟨⟨⟨g1, g2⟩, g3⟩, g4⟩, g5⟩, g6⟩ := h5
  simp [Cond.before, Cond.holds, Cond.value, h1, h2, h3, h4, g1, g2, g3, g4, g5, g6]
def isCode : Jvm.Cond → Bool
  | .code _ _ _ _ => true
  | _ => false
theorem all_split {L : List Jvm.Cond} {P : Jvm.Cond → Bool} (h1 : L.all (fun c => isCode c || P c) = true) (h2 : ∀ c ∈ L.filter isCode, P c = true) : L.all P = true := by
  refine List.all_eq_true.mpr fun c hc => ?_
  have h := List.all_eq_true.mp h1 c hc
  rcases Bool.eq_false_or_eq_true (isCode c) with hi | hi
  · exact h2 c (List.mem_filter.mpr ⟨hc, hi⟩)
  · simpa [hi] using h
set_option maxRecDepth 65536 in
theorem w_c0 : (Jvm.Cond.code x code maxLocals ret).before args0 about1 = true := code_word (m := ⟨1, 2⟩) (meth := k1m2) (c := k1c2) (by decide +kernel) rfl rfl rfl (by decide +kernel)
set_option maxRecDepth 65536 in
theorem w_c1 : (Jvm.Cond.code ({ cls := "com/example/verdictd/verdictd/NamespaceHoldsAttributesPinLaw", name := "pick", desc := "(I)Lcom/example/verdictd/verdictd/Namespace;" } : Jvm.MethodName) method_2_code (1 : Nat) (Option.some (Jvm.ClassFile.FieldType.object "com/example/verdictd/verdictd/Namespace"))).before args0 about1 = true := code_word (m := ⟨1, 1⟩) (meth := k1m1) (c := k1c1) (by decide +kernel) rfl rfl rfl (by decide +kernel)
set_option maxRecDepth 65536 in
theorem w_c2 : (Jvm.Cond.code ({ cls := "com/example/verdictd/verdictd/Namespace", name := "holdsAttributes", desc := "()Z" } : Jvm.MethodName) prog_19_method_9_code (1 : Nat) (Option.some Jvm.ClassFile.FieldType.boolean)).before args0 about1 = true := code_word (m := ⟨6, 1⟩) (meth := k6m1) (c := k6c1) (by decide +kernel) rfl rfl rfl (by decide +kernel)
set_option maxRecDepth 65536 in
theorem w_c3 : (Jvm.Cond.code ({ cls := "com/example/verdictd/verdictd/Namespace", name := "collection", desc := "()Ljava/lang/String;" } : Jvm.MethodName) prog_19_method_8_code (1 : Nat) (Option.some (Jvm.ClassFile.FieldType.object "java/lang/String"))).before args0 about1 = true := code_word (m := ⟨6, 0⟩) (meth := k6m0) (c := k6c0) (by decide +kernel) rfl rfl rfl (by decide +kernel)
def codes1 : List Jvm.Cond := [Jvm.Cond.code x code maxLocals ret, Jvm.Cond.code ({ cls := "com/example/verdictd/verdictd/NamespaceHoldsAttributesPinLaw", name := "pick", desc := "(I)Lcom/example/verdictd/verdictd/Namespace;" } : Jvm.MethodName) method_2_code (1 : Nat) (Option.some (Jvm.ClassFile.FieldType.object "com/example/verdictd/verdictd/Namespace")), Jvm.Cond.code ({ cls := "com/example/verdictd/verdictd/Namespace", name := "holdsAttributes", desc := "()Z" } : Jvm.MethodName) prog_19_method_9_code (1 : Nat) (Option.some Jvm.ClassFile.FieldType.boolean), Jvm.Cond.code ({ cls := "com/example/verdictd/verdictd/Namespace", name := "collection", desc := "()Ljava/lang/String;" } : Jvm.MethodName) prog_19_method_8_code (1 : Nat) (Option.some (Jvm.ClassFile.FieldType.object "java/lang/String"))]
set_option maxRecDepth 65536 in
theorem codes_eq : words1.filter isCode = codes1 := rfl
theorem w_codes : ∀ c ∈ words1.filter isCode, c.before args0 about1 = true := by
  rw [codes_eq]
  intro c hc
  simp only [codes1, List.mem_cons, List.not_mem_nil, or_false] at hc
  rcases hc with rfl | rfl | rfl | rfl
  · exact w_c0
  · exact w_c1
  · exact w_c2
  · exact w_c3
set_option maxRecDepth 65536 in
theorem w_t1 : (words1.take 24).all (fun c => isCode c || c.before args0 about1) = true := by decide +kernel
set_option maxRecDepth 65536 in
theorem w_t2 : (words1.drop 24).all (fun c => isCode c || c.before args0 about1) = true := by decide +kernel
theorem w_tables : (allAtoms (Jvm.Cond.code x code maxLocals ret :: tables_1)).before args0 about1 = true := by
  rw [allAtoms_all]
  show words1.all (fun c => c.before args0 about1) = true
  refine all_split ?_ w_codes
  rw [← List.take_append_drop 24 words1, List.all_append, w_t1, w_t2]
  rfl
set_option maxRecDepth 65536 in
theorem w_case : (Jvm.Cond.and given_1 narrow_1).before args0 about1 = true := by decide +kernel
theorem w_applies : (headSpec (Jvm.Cond.code x code maxLocals ret :: tables_1) room_1).applies x e0.platform about1 = true :=
  (Spec.applies_iff w_frames).mpr ⟨w_running, w_runnable, w_alone, w_named, w_hears, w_ripe, w_room, w_tables⟩
theorem atStart : AtStart classFile x code maxLocals ret World_1 tables_1 room_1 Calls_1 rest_1 Pre_1 launch0 p0 e0 about1 theMethod args0 below0 :=
  ⟨lists_1, trivial, launch0.admits_env _ _ _, launch0.least_env, fairChoices_fair.cas, fairChoices_fair.clock, w_frames, w_args, w_heap, w_applies, trivial, trivial, w_case⟩
end start1
theorem witness_1 : WitnessClaimed_1 := ⟨start1.p0, start1.e0, start1.about1, start1.theMethod, start1.args0, start1.below0, start1.atStart⟩
end Jvm.Pilot.@@N@@
