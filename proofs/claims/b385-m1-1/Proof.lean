import JvmDerived
import JvmDerived.Pilot.@@N@@Statement
import JvmDerived.Pilot.@@N@@Code
set_option linter.unusedVariables false
set_option linter.unusedSimpArgs false
namespace Jvm.Pilot.@@N@@
open Jvm Jvm.ClassFile Sem Op Lib Jvm.Free Jvm.Stand Jvm.LawKit Jvm.RoadKit Bundle Jvm.Pilot.@@N@@.Jvm.D
theorem own_sz {Z : State} {n0 : Nat} {h : Heap} (O : Old Z n0 h) : n0 ≤ h.size := O.1 ▸ O.2.1
theorem own_sta {args : Array Value} {s : State} {C n d K : String} (h : (Jvm.Cond.exactly (.static C n d) K).value args s none s [] = some true) (hi : (Jvm.Cond.initialized C).before args s = true) (hl : (Jvm.Cond.laysStatic C n d).before args s = true) :
    ∃ a, Sta s s.heap C n d (.ref a) ∧ Exa s s.heap a K ∧ (Term.static C n d).eval args s none [] s = some (.ref a) := by
  obtain ⟨a, ev⟩ := exa_v h
  exact ⟨a, Sta.start ev (Or.inr ⟨hi, hl⟩), Exa.start ev h, ev⟩
theorem own_fint {args : Array Value} {s : State} {t : Term} {a : Addr} {C n d : String} {k : Int32} (ev : t.eval args s none [] s = some (.ref a)) (h : (Jvm.Cond.eq (.field t C n d) (.int k)).value args s none s [] = some true) : Fld s s.heap a C n d (.int k) := by
  obtain ⟨x, y, h1, h2, -, -⟩ := cmp_v (Or.inl h)
  cases h2.symm.trans (Term.int_eval k)
  have h3 := h1
  rw [fld_at ev] at h3
  have : x = .int k := by
    cases x <;> simp_all [Cond.value, Term.eval]
  subst this
  exact Fld.start h3
theorem own_fnull {args : Array Value} {s : State} {t : Term} {a : Addr} {C n d : String} (ev : t.eval args s none [] s = some (.ref a)) (h : (Jvm.Cond.eq (.field t C n d) .null).value args s none s [] = some true) : Fld s s.heap a C n d .null := by
  have h1 := null_v h
  rw [fld_at ev] at h1
  exact Fld.start h1
theorem own_fexa {args : Array Value} {s : State} {t : Term} {a : Addr} {C n d K : String} (ev : t.eval args s none [] s = some (.ref a)) (h : (Jvm.Cond.exactly (.field t C n d) K).value args s none s [] = some true) :
    ∃ b, Fld s s.heap a C n d (.ref b) ∧ Exa s s.heap b K ∧ (Term.field t C n d).eval args s none [] s = some (.ref b) := by
  obtain ⟨b, e2⟩ := exa_v h
  have h1 := e2
  rw [fld_at ev] at h1
  exact ⟨b, Fld.start h1, Exa.start e2 h, e2⟩
theorem own_freq {args : Array Value} {s : State} {t u : Term} {a b : Addr} {C n d : String} (ev : t.eval args s none [] s = some (.ref a)) (eu : u.eval args s none [] s = some (.ref b)) (h : (Jvm.Cond.eq (.field t C n d) u).value args s none s [] = some true) : Fld s s.heap a C n d (.ref b) := by
  obtain ⟨x, y, h1, h2, -, -⟩ := cmp_v (Or.inl h)
  cases h2.symm.trans eu
  have h3 := h1
  rw [fld_at ev] at h3
  have : x = .ref b := by
    cases x <;> simp_all [Cond.value]
  subst this
  exact Fld.start h3
theorem own_nn {v : Value} {a : Addr} (h : v = .ref a) : ¬ v = Value.null := by rw [h]; exact nofun
theorem own_nref {n : String} {v : Value} (h : v.isRef = true) : narrow (.object n) v = v := by rcases ref_cases h with rfl | ⟨_, rfl⟩ <;> rfl
theorem own_fref {n : String} {v : Value} (h : v.isRef = true) : fits (.object n) v = true := by rcases ref_cases h with rfl | ⟨_, rfl⟩ <;> rfl
theorem own_nb {z : Int32} (h : z = 0 ∨ z = 1) : narrow .boolean (.int z) = .int z := by rcases h with rfl | rfl <;> rfl
theorem ow0 {a0 : Array Value} {Z : State} (hw : ∀ d ∈ tables_1, d.before a0 Z = true) : (Jvm.Cond.classLink "com/example/redress/redress/check/StateRunningPinLaw" (7 : Nat) "com/example/redress/redress/check/Instance$State").before a0 Z = true := hw _ (List.mem_of_getElem? (i := 0) rfl)
theorem ow1 {a0 : Array Value} {Z : State} (hw : ∀ d ∈ tables_1, d.before a0 Z = true) : (Jvm.Cond.arrayOver (Jvm.ClassFile.FieldType.object "com/example/redress/redress/check/Instance$State")).before a0 Z = true := hw _ (List.mem_of_getElem? (i := 1) rfl)
theorem ow2 {a0 : Array Value} {Z : State} (hw : ∀ d ∈ tables_1, d.before a0 Z = true) : (Jvm.Cond.fieldLink "com/example/redress/redress/check/StateRunningPinLaw" (9 : Nat) "com/example/redress/redress/check/Instance$State" "STARTED" "Lcom/example/redress/redress/check/Instance$State;").before a0 Z = true := hw _ (List.mem_of_getElem? (i := 2) rfl)
theorem ow3 {a0 : Array Value} {Z : State} (hw : ∀ d ∈ tables_1, d.before a0 Z = true) : (Jvm.Cond.initialized "com/example/redress/redress/check/Instance$State").before a0 Z = true := hw _ (List.mem_of_getElem? (i := 3) rfl)
theorem ow4 {a0 : Array Value} {Z : State} (hw : ∀ d ∈ tables_1, d.before a0 Z = true) : (Jvm.Cond.laysStatic "com/example/redress/redress/check/Instance$State" "STARTED" "Lcom/example/redress/redress/check/Instance$State;").before a0 Z = true := hw _ (List.mem_of_getElem? (i := 4) rfl)
theorem ow6 {a0 : Array Value} {Z : State} (hw : ∀ d ∈ tables_1, d.before a0 Z = true) : (Jvm.Cond.fieldLink "com/example/redress/redress/check/StateRunningPinLaw" (13 : Nat) "com/example/redress/redress/check/Instance$State" "FINISHED" "Lcom/example/redress/redress/check/Instance$State;").before a0 Z = true := hw _ (List.mem_of_getElem? (i := 6) rfl)
theorem ow7 {a0 : Array Value} {Z : State} (hw : ∀ d ∈ tables_1, d.before a0 Z = true) : (Jvm.Cond.laysStatic "com/example/redress/redress/check/Instance$State" "FINISHED" "Lcom/example/redress/redress/check/Instance$State;").before a0 Z = true := hw _ (List.mem_of_getElem? (i := 7) rfl)
theorem ow8 {a0 : Array Value} {Z : State} (hw : ∀ d ∈ tables_1, d.before a0 Z = true) : (Jvm.Cond.fieldLink "com/example/redress/redress/check/StateRunningPinLaw" (16 : Nat) "com/example/redress/redress/check/Instance$State" "FAILING_BACK" "Lcom/example/redress/redress/check/Instance$State;").before a0 Z = true := hw _ (List.mem_of_getElem? (i := 8) rfl)
theorem ow9 {a0 : Array Value} {Z : State} (hw : ∀ d ∈ tables_1, d.before a0 Z = true) : (Jvm.Cond.laysStatic "com/example/redress/redress/check/Instance$State" "FAILING_BACK" "Lcom/example/redress/redress/check/Instance$State;").before a0 Z = true := hw _ (List.mem_of_getElem? (i := 9) rfl)
theorem ow10 {a0 : Array Value} {Z : State} (hw : ∀ d ∈ tables_1, d.before a0 Z = true) : (Jvm.Cond.fieldLink "com/example/redress/redress/check/StateRunningPinLaw" (19 : Nat) "com/example/redress/redress/check/Instance$State" "FINALIZING" "Lcom/example/redress/redress/check/Instance$State;").before a0 Z = true := hw _ (List.mem_of_getElem? (i := 10) rfl)
theorem ow11 {a0 : Array Value} {Z : State} (hw : ∀ d ∈ tables_1, d.before a0 Z = true) : (Jvm.Cond.laysStatic "com/example/redress/redress/check/Instance$State" "FINALIZING" "Lcom/example/redress/redress/check/Instance$State;").before a0 Z = true := hw _ (List.mem_of_getElem? (i := 11) rfl)
theorem ow12 {a0 : Array Value} {Z : State} (hw : ∀ d ∈ tables_1, d.before a0 Z = true) : (Jvm.Cond.fieldLink "com/example/redress/redress/check/StateRunningPinLaw" (22 : Nat) "com/example/redress/redress/check/Instance$State" "ENDED" "Lcom/example/redress/redress/check/Instance$State;").before a0 Z = true := hw _ (List.mem_of_getElem? (i := 12) rfl)
theorem ow13 {a0 : Array Value} {Z : State} (hw : ∀ d ∈ tables_1, d.before a0 Z = true) : (Jvm.Cond.laysStatic "com/example/redress/redress/check/Instance$State" "ENDED" "Lcom/example/redress/redress/check/Instance$State;").before a0 Z = true := hw _ (List.mem_of_getElem? (i := 13) rfl)
theorem ow14 {a0 : Array Value} {Z : State} (hw : ∀ d ∈ tables_1, d.before a0 Z = true) : (Jvm.Cond.constant "com/example/redress/redress/check/StateRunningPinLaw" (25 : Nat) (2147483647 : Int32)).before a0 Z = true := hw _ (List.mem_of_getElem? (i := 14) rfl)
theorem ow15 {a0 : Array Value} {Z : State} (hw : ∀ d ∈ tables_1, d.before a0 Z = true) : (Jvm.Cond.methodLink "com/example/redress/redress/check/StateRunningPinLaw" (26 : Nat) ({ cls := "com/example/redress/redress/check/Instance$State", name := "running", desc := "()Z" } : Jvm.MethodName)).before a0 Z = true := hw _ (List.mem_of_getElem? (i := 15) rfl)
theorem ow16 {a0 : Array Value} {Z : State} (hw : ∀ d ∈ tables_1, d.before a0 Z = true) : (Jvm.Cond.declares ({ cls := "com/example/redress/redress/check/Instance$State", name := "running", desc := "()Z" } : Jvm.MethodName)).before a0 Z = true := hw _ (List.mem_of_getElem? (i := 16) rfl)
theorem ow17 {a0 : Array Value} {Z : State} (hw : ∀ d ∈ tables_1, d.before a0 Z = true) : (Jvm.Cond.instanceMethod ({ cls := "com/example/redress/redress/check/Instance$State", name := "running", desc := "()Z" } : Jvm.MethodName)).before a0 Z = true := hw _ (List.mem_of_getElem? (i := 17) rfl)
theorem ow18 {a0 : Array Value} {Z : State} (hw : ∀ d ∈ tables_1, d.before a0 Z = true) : (Jvm.Cond.selects "com/example/redress/redress/check/Instance$State" ({ cls := "com/example/redress/redress/check/Instance$State", name := "running", desc := "()Z" } : Jvm.MethodName) ({ cls := "com/example/redress/redress/check/Instance$State", name := "running", desc := "()Z" } : Jvm.MethodName)).before a0 Z = true := hw _ (List.mem_of_getElem? (i := 18) rfl)
theorem ow19 {a0 : Array Value} {Z : State} (hw : ∀ d ∈ tables_1, d.before a0 Z = true) : (Jvm.Cond.code ({ cls := "com/example/redress/redress/check/Instance$State", name := "running", desc := "()Z" } : Jvm.MethodName) prog_14_method_4_code (1 : Nat) (Option.some Jvm.ClassFile.FieldType.boolean)).before a0 Z = true := hw _ (List.mem_of_getElem? (i := 19) rfl)
theorem ow20 {a0 : Array Value} {Z : State} (hw : ∀ d ∈ tables_1, d.before a0 Z = true) : (Jvm.Cond.fieldLink "com/example/redress/redress/check/Instance$State" (3 : Nat) "com/example/redress/redress/check/Instance$State" "STARTED" "Lcom/example/redress/redress/check/Instance$State;").before a0 Z = true := hw _ (List.mem_of_getElem? (i := 20) rfl)
theorem ow21 {a0 : Array Value} {Z : State} (hw : ∀ d ∈ tables_1, d.before a0 Z = true) : (Jvm.Cond.fieldLink "com/example/redress/redress/check/Instance$State" (10 : Nat) "com/example/redress/redress/check/Instance$State" "FAILING_BACK" "Lcom/example/redress/redress/check/Instance$State;").before a0 Z = true := hw _ (List.mem_of_getElem? (i := 21) rfl)
theorem ow22 {a0 : Array Value} {Z : State} (hw : ∀ d ∈ tables_1, d.before a0 Z = true) : (Jvm.Cond.fieldLink "com/example/redress/redress/check/Instance$State" (13 : Nat) "com/example/redress/redress/check/Instance$State" "FINALIZING" "Lcom/example/redress/redress/check/Instance$State;").before a0 Z = true := hw _ (List.mem_of_getElem? (i := 22) rfl)
theorem pd0 : parseMethodDescriptor "()Z" = some ⟨[], some .boolean⟩ := by decide +kernel
theorem pn0 : plainName "com/example/redress/redress/check/Instance$State" = true := by first | (simp [plainName, overriddenIn]; done) | decide +kernel
theorem pn1 : plainName "com/example/redress/redress/check/StateRunningPinLaw" = true := by first | (simp [plainName, overriddenIn]; done) | decide +kernel
def pk (k : Int32) (w0 w1 w2 w3 w4 : Addr) : Addr := if k = 0 then w0 else if k = 1 then w1 else if k = 2 then w2 else if k = 3 then w3 else w4
def rn (a w0 w2 w3 : Addr) : Int32 := if a = w0 then 1 else if a = w2 then 1 else if a = w3 then 1 else 0
theorem d_prog_14_method_4_code_0 : decode prog_14_method_4_code 0 = .ok (.aload_n 0, 1) := by decide +kernel
theorem d_prog_14_method_4_code_1 : decode prog_14_method_4_code 1 = .ok (.getstatic 3, 3) := by decide +kernel
theorem d_prog_14_method_4_code_4 : decode prog_14_method_4_code 4 = .ok (.if_acmp .eq 17, 3) := by decide +kernel
theorem d_prog_14_method_4_code_7 : decode prog_14_method_4_code 7 = .ok (.aload_n 0, 1) := by decide +kernel
theorem d_prog_14_method_4_code_8 : decode prog_14_method_4_code 8 = .ok (.getstatic 10, 3) := by decide +kernel
theorem d_prog_14_method_4_code_11 : decode prog_14_method_4_code 11 = .ok (.if_acmp .eq 10, 3) := by decide +kernel
theorem d_prog_14_method_4_code_14 : decode prog_14_method_4_code 14 = .ok (.aload_n 0, 1) := by decide +kernel
theorem d_prog_14_method_4_code_15 : decode prog_14_method_4_code 15 = .ok (.getstatic 13, 3) := by decide +kernel
theorem d_prog_14_method_4_code_18 : decode prog_14_method_4_code 18 = .ok (.if_acmp .ne 7, 3) := by decide +kernel
theorem d_prog_14_method_4_code_21 : decode prog_14_method_4_code 21 = .ok (.iconst 1, 1) := by decide +kernel
theorem d_prog_14_method_4_code_22 : decode prog_14_method_4_code 22 = .ok (.goto 4, 3) := by decide +kernel
theorem d_prog_14_method_4_code_25 : decode prog_14_method_4_code 25 = .ok (.iconst 0, 1) := by decide +kernel
theorem d_prog_14_method_4_code_26 : decode prog_14_method_4_code 26 = .ok (.ireturn, 1) := by decide +kernel
def Q_rmrn (Z : State) (a : Addr) (w_STARTED : Addr) (w_FAILING_BACK : Addr) (w_FINALIZING : Addr) (h0 : Heap) (n0 : Nat) (v : Option Value) (h : Heap) (L : List Loc) : Prop := v = some (.int (rn a w_STARTED w_FAILING_BACK w_FINALIZING)) ∧ Fr n0 L ∧ h = h0
theorem ef_rmrn (m : MethodId) (a : Addr) : entryFrame m #[(.ref a)] 1 = mkF m 0 #[.val (.ref a)] [] := by first | (simp [entryFrame, mkF, argsToLocals, Value.category]; done) | rfl
set_option maxRecDepth 65536 in
set_option maxHeartbeats 40000000 in
theorem rmrn (l : Launch) (Z : State) (a0 : Array Value) (hw : ∀ d ∈ tables_1, d.before a0 Z = true) (ws : List Jvm.Cond) (a : Addr) (w_STARTED : Addr) (w_FAILING_BACK : Addr) (w_FINALIZING : Addr) (h0 : Heap) (n0 : Nat) (O0 : Old Z n0 h0) (S_STARTED : Sta Z Z.heap "com/example/redress/redress/check/Instance$State" "STARTED" "Lcom/example/redress/redress/check/Instance$State;" (.ref w_STARTED)) (S_FAILING_BACK : Sta Z Z.heap "com/example/redress/redress/check/Instance$State" "FAILING_BACK" "Lcom/example/redress/redress/check/Instance$State;" (.ref w_FAILING_BACK)) (S_FINALIZING : Sta Z Z.heap "com/example/redress/redress/check/Instance$State" "FINALIZING" "Lcom/example/redress/redress/check/Instance$State;" (.ref w_FINALIZING)) :
    MetFree l (⟨"com/example/redress/redress/check/Instance$State", "running", "()Z"⟩ : MethodName) (head1 (Jvm.Cond.code (⟨"com/example/redress/redress/check/Instance$State", "running", "()Z"⟩ : MethodName) prog_14_method_4_code 1 (some .boolean) :: ws) ({ frames := 0, cells := 0, slots := 0, locals := 0 } : Room)) (fun aa U => aa = #[(.ref a)] ∧ Z.Warmed39 U.vm ∧ U.heap = h0) (fun _ _ _ _ _ => True) (fun _ U o U' => ∃ v L, o = .returned v ∧ Q_rmrn Z a w_STARTED w_FAILING_BACK w_FINALIZING h0 n0 v U'.heap L ∧ FrameEnd U o U' L ({ frames := 0, cells := 0, slots := 0, locals := 0 } : Room).cells ({ frames := 0, cells := 0, slots := 0, locals := 0 } : Room).slots) := by
  refine MetFree.of_bodySF (plainFor_of_name pn0) hisR ?_
  intro p e s m args below meth c s₁ Bd hml0 hP hK
  obtain ⟨rfl, hZ, hh⟩ := hP
  have hx := Bd.exec
  have hby := Bd.bytes
  have hml : c.maxLocals = 1 := hml0
  have hown : s.vm.findClass "com/example/redress/redress/check/Instance$State" = some m.cls := findClass_of_methodNamed Bd.named
  have hnm := (name_of_methodNamed Bd.named Bd.method).1
  have X0 : Stand p l e ({ frames := 0, cells := 0, slots := 0, locals := 0 } : Room) s m #[(.ref a)] below meth c s₁ [] 0 0 := Stand.of_body Bd
  have e0 : s₁.heap = h0 := by rw [← hh, Bd.state]; rfl
  have N0 := Fr.nil n0
  have K0 : Keep h0 h0 [] := Keep.refl _ _
  have pre0 : ∀ tgt, Steps p.tables e below (s₁.setTop (mkF m 0 #[.val (.ref a)] [])) tgt → Steps p.tables e below (s₁.setTop (entryFrame m #[(.ref a)] 1)) tgt := fun tgt kgo => castTop (ef_rmrn m a) kgo
  obtain ⟨T1, X1, e1, st1⟩ := getS2 X0 hx hZ hown (host := "") (Or.inl (ow20 hw)) Via.refl e0 (S_STARTED.ext O0.2) (g := (mkF m 1 #[.val (.ref a)] [(.ref a)])) rfl (hb hby d_prog_14_method_4_code_1)
  have pre2 : ∀ tgt, Steps p.tables e below (T1.setTop (mkF m 4 #[.val (.ref a)] [(.ref w_STARTED), (.ref a)])) tgt → Steps p.tables e below (s₁.setTop (entryFrame m #[(.ref a)] 1)) tgt := by
    intro tgt kgo
    refine pre0 _ ?_
    refine XS.aloadN X0.here hx rfl (hb hby d_prog_14_method_4_code_0) rfl rfl ?_
    show Steps p.tables e below (s₁.setTop (mkF m 1 #[.val (.ref a)] [(.ref a)])) _
    refine st1 _ ?_
    show Steps p.tables e below (T1.setTop (mkF m 4 #[.val (.ref a)] [(.ref w_STARTED), (.ref a)])) _
    exact kgo
  by_cases hc4_3 : a = w_STARTED
  · obtain ⟨fs, hr, hrun, hended, hW, hsame⟩ := X1.leave (v := some (.int (1 : Int32))) (fun h => by rw [Bd.returns] at h; cases h)
    refine ⟨_, _, pre2 _ ?_, hrun, hended, _, _, rfl, ?_, ⟨_, rfl⟩, hW, hsame.mono (by decide) (by decide)⟩
    · refine Jvm.RoadKit.acmp (g := (mkF m 4 #[.val (.ref a)] [(.ref w_STARTED), (.ref a)])) X1 hx rfl rfl rfl (pc0 := 4) (pc' := 21) (same := true) rfl (hb hby d_prog_14_method_4_code_4) rfl (decide_eq_true (congrArg Value.ref hc4_3)) (by decide) (by decide) ?_
      show Steps p.tables e below (T1.setTop (mkF m 21 #[.val (.ref a)] [])) _
      refine XS.iconst X1.here hx rfl (hb hby d_prog_14_method_4_code_21) ?_
      show Steps p.tables e below (T1.setTop (mkF m 22 #[.val (.ref a)] [(.int (1 : Int32))])) _
      refine XS.goto X1.here hx rfl (pc0 := 22) (pc' := 26) rfl (hb hby d_prog_14_method_4_code_22) (by decide) (by decide) ?_
      show Steps p.tables e below (T1.setTop (mkF m 26 #[.val (.ref a)] [(.int (1 : Int32))])) _
      exact retOut X1 hx Bd.returns rfl (Or.inl ⟨rfl, Or.inr (Or.inl rfl), _, rfl⟩) (hb hby d_prog_14_method_4_code_26) hr
    · show Q_rmrn Z a w_STARTED w_FAILING_BACK w_FINALIZING h0 n0 _ T1.heap _
      rw [e1]
      exact ⟨by simp only [rn, if_pos hc4_3], N0, rfl⟩
  · obtain ⟨T4, X4, e4, st4⟩ := getS2 X1 hx hZ hown (host := "") (Or.inl (ow21 hw)) Via.refl e1 (S_FAILING_BACK.ext O0.2) (g := (mkF m 8 #[.val (.ref a)] [(.ref a)])) rfl (hb hby d_prog_14_method_4_code_8)
    have pre5 : ∀ tgt, Steps p.tables e below (T4.setTop (mkF m 11 #[.val (.ref a)] [(.ref w_FAILING_BACK), (.ref a)])) tgt → Steps p.tables e below (s₁.setTop (entryFrame m #[(.ref a)] 1)) tgt := by
      intro tgt kgo
      refine pre2 _ ?_
      refine Jvm.RoadKit.acmp (g := (mkF m 4 #[.val (.ref a)] [(.ref w_STARTED), (.ref a)])) X1 hx rfl rfl rfl (pc0 := 4) (pc' := 7) (same := false) rfl (hb hby d_prog_14_method_4_code_4) rfl (decide_eq_false (fun q => hc4_3 (Value.ref.inj q))) (by decide) (by decide) ?_
      show Steps p.tables e below (T1.setTop (mkF m 7 #[.val (.ref a)] [])) _
      refine XS.aloadN X1.here hx rfl (hb hby d_prog_14_method_4_code_7) rfl rfl ?_
      show Steps p.tables e below (T1.setTop (mkF m 8 #[.val (.ref a)] [(.ref a)])) _
      refine st4 _ ?_
      show Steps p.tables e below (T4.setTop (mkF m 11 #[.val (.ref a)] [(.ref w_FAILING_BACK), (.ref a)])) _
      exact kgo
    by_cases hc11_6 : a = w_FAILING_BACK
    · obtain ⟨fs, hr, hrun, hended, hW, hsame⟩ := X4.leave (v := some (.int (1 : Int32))) (fun h => by rw [Bd.returns] at h; cases h)
      refine ⟨_, _, pre5 _ ?_, hrun, hended, _, _, rfl, ?_, ⟨_, rfl⟩, hW, hsame.mono (by decide) (by decide)⟩
      · refine Jvm.RoadKit.acmp (g := (mkF m 11 #[.val (.ref a)] [(.ref w_FAILING_BACK), (.ref a)])) X4 hx rfl rfl rfl (pc0 := 11) (pc' := 21) (same := true) rfl (hb hby d_prog_14_method_4_code_11) rfl (decide_eq_true (congrArg Value.ref hc11_6)) (by decide) (by decide) ?_
        show Steps p.tables e below (T4.setTop (mkF m 21 #[.val (.ref a)] [])) _
        refine XS.iconst X4.here hx rfl (hb hby d_prog_14_method_4_code_21) ?_
        show Steps p.tables e below (T4.setTop (mkF m 22 #[.val (.ref a)] [(.int (1 : Int32))])) _
        refine XS.goto X4.here hx rfl (pc0 := 22) (pc' := 26) rfl (hb hby d_prog_14_method_4_code_22) (by decide) (by decide) ?_
        show Steps p.tables e below (T4.setTop (mkF m 26 #[.val (.ref a)] [(.int (1 : Int32))])) _
        exact retOut X4 hx Bd.returns rfl (Or.inl ⟨rfl, Or.inr (Or.inl rfl), _, rfl⟩) (hb hby d_prog_14_method_4_code_26) hr
      · show Q_rmrn Z a w_STARTED w_FAILING_BACK w_FINALIZING h0 n0 _ T4.heap _
        rw [e4]
        exact ⟨by simp only [rn, if_neg hc4_3, if_pos hc11_6], N0, rfl⟩
    · obtain ⟨T7, X7, e7, st7⟩ := getS2 X4 hx hZ hown (host := "") (Or.inl (ow22 hw)) Via.refl e4 (S_FINALIZING.ext O0.2) (g := (mkF m 15 #[.val (.ref a)] [(.ref a)])) rfl (hb hby d_prog_14_method_4_code_15)
      have pre8 : ∀ tgt, Steps p.tables e below (T7.setTop (mkF m 18 #[.val (.ref a)] [(.ref w_FINALIZING), (.ref a)])) tgt → Steps p.tables e below (s₁.setTop (entryFrame m #[(.ref a)] 1)) tgt := by
        intro tgt kgo
        refine pre5 _ ?_
        refine Jvm.RoadKit.acmp (g := (mkF m 11 #[.val (.ref a)] [(.ref w_FAILING_BACK), (.ref a)])) X4 hx rfl rfl rfl (pc0 := 11) (pc' := 14) (same := false) rfl (hb hby d_prog_14_method_4_code_11) rfl (decide_eq_false (fun q => hc11_6 (Value.ref.inj q))) (by decide) (by decide) ?_
        show Steps p.tables e below (T4.setTop (mkF m 14 #[.val (.ref a)] [])) _
        refine XS.aloadN X4.here hx rfl (hb hby d_prog_14_method_4_code_14) rfl rfl ?_
        show Steps p.tables e below (T4.setTop (mkF m 15 #[.val (.ref a)] [(.ref a)])) _
        refine st7 _ ?_
        show Steps p.tables e below (T7.setTop (mkF m 18 #[.val (.ref a)] [(.ref w_FINALIZING), (.ref a)])) _
        exact kgo
      by_cases hc18_9 : a = w_FINALIZING
      · obtain ⟨fs, hr, hrun, hended, hW, hsame⟩ := X7.leave (v := some (.int (1 : Int32))) (fun h => by rw [Bd.returns] at h; cases h)
        refine ⟨_, _, pre8 _ ?_, hrun, hended, _, _, rfl, ?_, ⟨_, rfl⟩, hW, hsame.mono (by decide) (by decide)⟩
        · refine Jvm.RoadKit.acmp (g := (mkF m 18 #[.val (.ref a)] [(.ref w_FINALIZING), (.ref a)])) X7 hx rfl rfl rfl (pc0 := 18) (pc' := 21) (same := true) rfl (hb hby d_prog_14_method_4_code_18) rfl (decide_eq_true (congrArg Value.ref hc18_9)) (by decide) (by decide) ?_
          show Steps p.tables e below (T7.setTop (mkF m 21 #[.val (.ref a)] [])) _
          refine XS.iconst X7.here hx rfl (hb hby d_prog_14_method_4_code_21) ?_
          show Steps p.tables e below (T7.setTop (mkF m 22 #[.val (.ref a)] [(.int (1 : Int32))])) _
          refine XS.goto X7.here hx rfl (pc0 := 22) (pc' := 26) rfl (hb hby d_prog_14_method_4_code_22) (by decide) (by decide) ?_
          show Steps p.tables e below (T7.setTop (mkF m 26 #[.val (.ref a)] [(.int (1 : Int32))])) _
          exact retOut X7 hx Bd.returns rfl (Or.inl ⟨rfl, Or.inr (Or.inl rfl), _, rfl⟩) (hb hby d_prog_14_method_4_code_26) hr
        · show Q_rmrn Z a w_STARTED w_FAILING_BACK w_FINALIZING h0 n0 _ T7.heap _
          rw [e7]
          exact ⟨by simp only [rn, if_neg hc4_3, if_neg hc11_6, if_pos hc18_9], N0, rfl⟩
      · obtain ⟨fs, hr, hrun, hended, hW, hsame⟩ := X7.leave (v := some (.int (0 : Int32))) (fun h => by rw [Bd.returns] at h; cases h)
        refine ⟨_, _, pre8 _ ?_, hrun, hended, _, _, rfl, ?_, ⟨_, rfl⟩, hW, hsame.mono (by decide) (by decide)⟩
        · refine Jvm.RoadKit.acmp (g := (mkF m 18 #[.val (.ref a)] [(.ref w_FINALIZING), (.ref a)])) X7 hx rfl rfl rfl (pc0 := 18) (pc' := 25) (same := false) rfl (hb hby d_prog_14_method_4_code_18) rfl (decide_eq_false (fun q => hc18_9 (Value.ref.inj q))) (by decide) (by decide) ?_
          show Steps p.tables e below (T7.setTop (mkF m 25 #[.val (.ref a)] [])) _
          refine XS.iconst X7.here hx rfl (hb hby d_prog_14_method_4_code_25) ?_
          show Steps p.tables e below (T7.setTop (mkF m 26 #[.val (.ref a)] [(.int (0 : Int32))])) _
          exact retOut X7 hx Bd.returns rfl (Or.inl ⟨rfl, Or.inr (Or.inl rfl), _, rfl⟩) (hb hby d_prog_14_method_4_code_26) hr
        · show Q_rmrn Z a w_STARTED w_FAILING_BACK w_FINALIZING h0 n0 _ T7.heap _
          rw [e7]
          exact ⟨by simp only [rn, if_neg hc4_3, if_neg hc11_6, if_neg hc18_9], N0, rfl⟩
theorem own_mod5 {x i : Int32} (h : i = (x &&& (2147483647 : Int32)) % (5 : Int32)) : i = 0 ∨ i = 1 ∨ i = 2 ∨ i = 3 ∨ i = 4 := by
  have h1 := c_mask x 2147483647 31 (by decide) (by decide)
  have h2 := (c_irem (x &&& 2147483647) 5 5 rfl).1 (by omega)
  rw [← h] at h2
  have h3 : i.toInt = 0 ∨ i.toInt = 1 ∨ i.toInt = 2 ∨ i.toInt = 3 ∨ i.toInt = 4 := by omega
  rcases h3 with h | h | h | h | h
  · exact Or.inl (Int32.toInt_inj.mp h)
  · exact Or.inr (Or.inl (Int32.toInt_inj.mp h))
  · exact Or.inr (Or.inr (Or.inl (Int32.toInt_inj.mp h)))
  · exact Or.inr (Or.inr (Or.inr (Or.inl (Int32.toInt_inj.mp h))))
  · exact Or.inr (Or.inr (Or.inr (Or.inr (Int32.toInt_inj.mp h))))
theorem own_in {x i : Int32} (h : i = (x &&& (2147483647 : Int32)) % (5 : Int32)) : ¬ i < 0 ∧ i < 5 := by
  rcases own_mod5 h with rfl | rfl | rfl | rfl | rfl <;> decide
theorem own_at {x i : Int32} {w0 w1 w2 w3 w4 : Addr} (h : i = (x &&& (2147483647 : Int32)) % (5 : Int32)) : ([(.ref w0), (.ref w1), (.ref w2), (.ref w3), (.ref w4)] : List Value).getD i.toNatClampNeg .null = .ref (pk i w0 w1 w2 w3 w4) := by
  rcases own_mod5 h with rfl | rfl | rfl | rfl | rfl <;> rfl
theorem own_pkE {Z : State} {C : String} (k : Int32) {w0 w1 w2 w3 w4 : Addr} (E0 : Exa Z Z.heap w0 C) (E1 : Exa Z Z.heap w1 C) (E2 : Exa Z Z.heap w2 C) (E3 : Exa Z Z.heap w3 C) (E4 : Exa Z Z.heap w4 C) : Exa Z Z.heap (pk k w0 w1 w2 w3 w4) C := by
  unfold pk
  split; · exact E0
  split; · exact E1
  split; · exact E2
  split; · exact E3
  exact E4
theorem own_law {i x z : Int32} {w0 w1 w2 w3 w4 : Addr} (h : i = (x &&& (2147483647 : Int32)) % (5 : Int32)) (hz : z = (if pk i w0 w1 w2 w3 w4 = w1 then (0 : Int32) else (if pk i w0 w1 w2 w3 w4 = w4 then (0 : Int32) else (1 : Int32)))) (n01 : w0 ≠ w1) (n04 : w0 ≠ w4) (n21 : w2 ≠ w1) (n24 : w2 ≠ w4) (n31 : w3 ≠ w1) (n34 : w3 ≠ w4) :
    rn (pk i w0 w1 w2 w3 w4) w0 w2 w3 = z := by
  subst hz
  have m01 := n01.symm
  have m04 := n04.symm
  have m21 := n21.symm
  have m24 := n24.symm
  have m31 := n31.symm
  have m34 := n34.symm
  have hm := own_mod5 h
  clear h
  rcases hm with rfl | rfl | rfl | rfl | rfl <;> simp [pk, rn, *]
def Q_rm0 (Z : State) (x0 : Int32) (w_STARTED : Addr) (w_FINISHED : Addr) (w_FAILING_BACK : Addr) (w_FINALIZING : Addr) (w_ENDED : Addr) (h0 : Heap) (n0 : Nat) (v : Option Value) (h : Heap) (L : List Loc) : Prop := v = some (.int (1 : Int32)) ∧ Fr n0 L
theorem ef_rm0 (m : MethodId) (x0 : Int32) : entryFrame m #[(.int x0)] maxLocals = mkF m 0 #[.val (.int x0), .unset, .unset, .unset] [] := by first | (simp [entryFrame, mkF, argsToLocals, Value.category, maxLocals]; done) | rfl
set_option maxRecDepth 65536 in
set_option maxHeartbeats 40000000 in
theorem rm0 (l : Launch) (Z : State) (a0 : Array Value) (hw : ∀ d ∈ tables_1, d.before a0 Z = true) (ws : List Jvm.Cond) (x0 : Int32) (w_STARTED : Addr) (w_FINISHED : Addr) (w_FAILING_BACK : Addr) (w_FINALIZING : Addr) (w_ENDED : Addr) (h0 : Heap) (n0 : Nat) (O0 : Old Z n0 h0) (S_STARTED : Sta Z Z.heap "com/example/redress/redress/check/Instance$State" "STARTED" "Lcom/example/redress/redress/check/Instance$State;" (.ref w_STARTED)) (E_STARTED : Exa Z Z.heap w_STARTED "com/example/redress/redress/check/Instance$State") (S_FINISHED : Sta Z Z.heap "com/example/redress/redress/check/Instance$State" "FINISHED" "Lcom/example/redress/redress/check/Instance$State;" (.ref w_FINISHED)) (E_FINISHED : Exa Z Z.heap w_FINISHED "com/example/redress/redress/check/Instance$State") (S_FAILING_BACK : Sta Z Z.heap "com/example/redress/redress/check/Instance$State" "FAILING_BACK" "Lcom/example/redress/redress/check/Instance$State;" (.ref w_FAILING_BACK)) (E_FAILING_BACK : Exa Z Z.heap w_FAILING_BACK "com/example/redress/redress/check/Instance$State") (S_FINALIZING : Sta Z Z.heap "com/example/redress/redress/check/Instance$State" "FINALIZING" "Lcom/example/redress/redress/check/Instance$State;" (.ref w_FINALIZING)) (E_FINALIZING : Exa Z Z.heap w_FINALIZING "com/example/redress/redress/check/Instance$State") (S_ENDED : Sta Z Z.heap "com/example/redress/redress/check/Instance$State" "ENDED" "Lcom/example/redress/redress/check/Instance$State;" (.ref w_ENDED)) (E_ENDED : Exa Z Z.heap w_ENDED "com/example/redress/redress/check/Instance$State") (F_STARTED_ordinal : Fld Z Z.heap w_STARTED "java/lang/Enum" "ordinal" "I" (.int (0 : Int32))) (F_FINISHED_ordinal : Fld Z Z.heap w_FINISHED "java/lang/Enum" "ordinal" "I" (.int (1 : Int32))) (F_ENDED_ordinal : Fld Z Z.heap w_ENDED "java/lang/Enum" "ordinal" "I" (.int (4 : Int32))) (F_FINALIZING_ordinal : Fld Z Z.heap w_FINALIZING "java/lang/Enum" "ordinal" "I" (.int (3 : Int32))) (F_FAILING_BACK_ordinal : Fld Z Z.heap w_FAILING_BACK "java/lang/Enum" "ordinal" "I" (.int (2 : Int32))) :
    MetFree l x (head1 (Jvm.Cond.code x code maxLocals ret :: ws) room_1) (fun aa U => aa = #[(.int x0)] ∧ Z.Warmed39 U.vm ∧ U.heap = h0) (fun _ _ _ _ _ => True) (fun _ U o U' => ∃ v L, o = .returned v ∧ Q_rm0 Z x0 w_STARTED w_FINISHED w_FAILING_BACK w_FINALIZING w_ENDED h0 n0 v U'.heap L ∧ FrameEnd U o U' L 1 5) := by
  refine MetFree.of_bodySF (plainFor_of_name pn1) hisR ?_
  intro p e s m args below meth c s₁ Bd hml0 hP hK
  obtain ⟨rfl, hZ, hh⟩ := hP
  have hx := Bd.exec
  have hby := Bd.bytes
  have hml : c.maxLocals = 4 := hml0
  have hown : s.vm.findClass "com/example/redress/redress/check/StateRunningPinLaw" = some m.cls := findClass_of_methodNamed Bd.named
  have hnm := (name_of_methodNamed Bd.named Bd.method).1
  have X0 : Stand p l e room_1 s m #[(.int x0)] below meth c s₁ [] 0 0 := Stand.of_body Bd
  have e0 : s₁.heap = h0 := by rw [← hh, Bd.state]; rfl
  have N0 := Fr.nil n0
  have pre0 : ∀ tgt, Steps p.tables e below (s₁.setTop (mkF m 0 #[.val (.int x0), .unset, .unset, .unset] [])) tgt → Steps p.tables e below (s₁.setTop (entryFrame m #[(.int x0)] maxLocals)) tgt := fun tgt kgo => castTop (ef_rm0 m x0) kgo
  obtain ⟨T1, h1, k1, X1, e1, E1, A1, Ov1, st1⟩ := newR X0 hx hZ hown (ow0 hw) (ow1 hw) e0 (g := (mkF m 1 #[.val (.int x0), .unset, .unset, .unset] [(.int (5 : Int32))])) rfl (hb hby at_1) rfl (by decide) (cap := 5) (by decide) (by decide) (by decide) (by decide)
  obtain ⟨b1, g1⟩ : ∃ z, z = h0.size := ⟨_, rfl⟩
  rw [← g1] at A1 st1
  have V1 : Arv Z h1 b1 k1 (.object "com/example/redress/redress/check/Instance$State") (5 : Int32) [.null, .null, .null, .null, .null] .null := (Arv.new A1 (by decide)).pad (pad_rep [] .null 5)
  have gn1 : n0 ≤ b1 := Nat.le_trans (own_sz O0) (Nat.le_of_eq g1.symm)
  have O2 := O0.ext E1
  obtain ⟨T3, X3, e3, st3⟩ := getS2 X1 hx hZ hown (host := "") (Or.inl (ow2 hw)) Via.refl e1 (S_STARTED.ext O2.2) (g := (mkF m 6 #[.val (.int x0), .unset, .unset, .unset] [(.int (0 : Int32)), (.ref b1), (.ref b1)])) rfl (hb hby at_6)
  obtain ⟨cl4, Ar4, q4, S4, M4, H4, G4⟩ := id V1
  have hin4 : ¬ ((0 : Int32) < 0 ∨ cl4.slots.size ≤ ((0 : Int32)).toNatClampNeg) := inb_of S4 ⟨by decide, by decide⟩
  obtain ⟨T5, h5, X5, e5, W5, st5⟩ := stR X3 hx hZ e3 Ar4 (j := (0 : Int32)) hin4 rfl (Sto.ofV Ar4 q4 Ov1 (Ins.self (E_STARTED.ext O2.2))) (g := (mkF m 9 #[.val (.int x0), .unset, .unset, .unset] [(.ref w_STARTED), (.int (0 : Int32)), (.ref b1), (.ref b1)])) rfl rfl (hb hby at_9)
  have V5 : Arv Z h5 b1 k1 (.object "com/example/redress/redress/check/Instance$State") (5 : Int32) [(.ref w_STARTED), .null, .null, .null, .null] .null := Arv.set Ar4 q4 S4 M4 H4 G4 rfl W5 0 rfl (Nat.le_of_ble_eq_true rfl)
  have N6 := Fr.snoc X5 N0 gn1
  have O6 := O2.wr W5 gn1
  obtain ⟨T7, X7, e7, st7⟩ := getS2 X5 hx hZ hown (host := "") (Or.inl (ow6 hw)) Via.refl e5 (S_FINISHED.ext O6.2) (g := (mkF m 12 #[.val (.int x0), .unset, .unset, .unset] [(.int (1 : Int32)), (.ref b1), (.ref b1)])) rfl (hb hby at_12)
  obtain ⟨cl8, Ar8, q8, S8, M8, H8, G8⟩ := id V5
  have hin8 : ¬ ((1 : Int32) < 0 ∨ cl8.slots.size ≤ ((1 : Int32)).toNatClampNeg) := inb_of S8 ⟨by decide, by decide⟩
  obtain ⟨T9, h9, X9, e9, W9, st9⟩ := stR X7 hx hZ e7 Ar8 (j := (1 : Int32)) hin8 rfl (Sto.ofV Ar8 q8 Ov1 (Ins.self (E_FINISHED.ext O6.2))) (g := (mkF m 15 #[.val (.int x0), .unset, .unset, .unset] [(.ref w_FINISHED), (.int (1 : Int32)), (.ref b1), (.ref b1)])) rfl rfl (hb hby at_15)
  have V9 : Arv Z h9 b1 k1 (.object "com/example/redress/redress/check/Instance$State") (5 : Int32) [(.ref w_STARTED), (.ref w_FINISHED), .null, .null, .null] .null := Arv.set Ar8 q8 S8 M8 H8 G8 rfl W9 1 rfl (Nat.le_of_ble_eq_true rfl)
  have N10 := Fr.snoc X9 N6 gn1
  have O10 := O6.wr W9 gn1
  obtain ⟨T11, X11, e11, st11⟩ := getS2 X9 hx hZ hown (host := "") (Or.inl (ow8 hw)) Via.refl e9 (S_FAILING_BACK.ext O10.2) (g := (mkF m 18 #[.val (.int x0), .unset, .unset, .unset] [(.int (2 : Int32)), (.ref b1), (.ref b1)])) rfl (hb hby at_18)
  obtain ⟨cl12, Ar12, q12, S12, M12, H12, G12⟩ := id V9
  have hin12 : ¬ ((2 : Int32) < 0 ∨ cl12.slots.size ≤ ((2 : Int32)).toNatClampNeg) := inb_of S12 ⟨by decide, by decide⟩
  obtain ⟨T13, h13, X13, e13, W13, st13⟩ := stR X11 hx hZ e11 Ar12 (j := (2 : Int32)) hin12 rfl (Sto.ofV Ar12 q12 Ov1 (Ins.self (E_FAILING_BACK.ext O10.2))) (g := (mkF m 21 #[.val (.int x0), .unset, .unset, .unset] [(.ref w_FAILING_BACK), (.int (2 : Int32)), (.ref b1), (.ref b1)])) rfl rfl (hb hby at_21)
  have V13 : Arv Z h13 b1 k1 (.object "com/example/redress/redress/check/Instance$State") (5 : Int32) [(.ref w_STARTED), (.ref w_FINISHED), (.ref w_FAILING_BACK), .null, .null] .null := Arv.set Ar12 q12 S12 M12 H12 G12 rfl W13 2 rfl (Nat.le_of_ble_eq_true rfl)
  have N14 := Fr.snoc X13 N10 gn1
  have O14 := O10.wr W13 gn1
  obtain ⟨T15, X15, e15, st15⟩ := getS2 X13 hx hZ hown (host := "") (Or.inl (ow10 hw)) Via.refl e13 (S_FINALIZING.ext O14.2) (g := (mkF m 24 #[.val (.int x0), .unset, .unset, .unset] [(.int (3 : Int32)), (.ref b1), (.ref b1)])) rfl (hb hby at_24)
  obtain ⟨cl16, Ar16, q16, S16, M16, H16, G16⟩ := id V13
  have hin16 : ¬ ((3 : Int32) < 0 ∨ cl16.slots.size ≤ ((3 : Int32)).toNatClampNeg) := inb_of S16 ⟨by decide, by decide⟩
  obtain ⟨T17, h17, X17, e17, W17, st17⟩ := stR X15 hx hZ e15 Ar16 (j := (3 : Int32)) hin16 rfl (Sto.ofV Ar16 q16 Ov1 (Ins.self (E_FINALIZING.ext O14.2))) (g := (mkF m 27 #[.val (.int x0), .unset, .unset, .unset] [(.ref w_FINALIZING), (.int (3 : Int32)), (.ref b1), (.ref b1)])) rfl rfl (hb hby at_27)
  have V17 : Arv Z h17 b1 k1 (.object "com/example/redress/redress/check/Instance$State") (5 : Int32) [(.ref w_STARTED), (.ref w_FINISHED), (.ref w_FAILING_BACK), (.ref w_FINALIZING), .null] .null := Arv.set Ar16 q16 S16 M16 H16 G16 rfl W17 3 rfl (Nat.le_of_ble_eq_true rfl)
  have N18 := Fr.snoc X17 N14 gn1
  have O18 := O14.wr W17 gn1
  obtain ⟨T19, X19, e19, st19⟩ := getS2 X17 hx hZ hown (host := "") (Or.inl (ow12 hw)) Via.refl e17 (S_ENDED.ext O18.2) (g := (mkF m 30 #[.val (.int x0), .unset, .unset, .unset] [(.int (4 : Int32)), (.ref b1), (.ref b1)])) rfl (hb hby at_30)
  obtain ⟨cl20, Ar20, q20, S20, M20, H20, G20⟩ := id V17
  have hin20 : ¬ ((4 : Int32) < 0 ∨ cl20.slots.size ≤ ((4 : Int32)).toNatClampNeg) := inb_of S20 ⟨by decide, by decide⟩
  obtain ⟨T21, h21, X21, e21, W21, st21⟩ := stR X19 hx hZ e19 Ar20 (j := (4 : Int32)) hin20 rfl (Sto.ofV Ar20 q20 Ov1 (Ins.self (E_ENDED.ext O18.2))) (g := (mkF m 33 #[.val (.int x0), .unset, .unset, .unset] [(.ref w_ENDED), (.int (4 : Int32)), (.ref b1), (.ref b1)])) rfl rfl (hb hby at_33)
  have V21 : Arv Z h21 b1 k1 (.object "com/example/redress/redress/check/Instance$State") (5 : Int32) [(.ref w_STARTED), (.ref w_FINISHED), (.ref w_FAILING_BACK), (.ref w_FINALIZING), (.ref w_ENDED)] .null := Arv.set Ar20 q20 S20 M20 H20 G20 rfl W21 4 rfl (Nat.le_of_ble_eq_true rfl)
  have N22 := Fr.snoc X21 N18 gn1
  have O22 := O18.wr W21 gn1
  have pre23 : ∀ tgt, Steps p.tables e below (T21.setTop (mkF m 42 #[.val (.int x0), .val (.ref b1), .unset, .unset] [(.int ((x0 &&& (2147483647 : Int32)) % (5 : Int32))), (.ref b1)])) tgt → Steps p.tables e below (s₁.setTop (entryFrame m #[(.int x0)] maxLocals)) tgt := by
    intro tgt kgo
    refine pre0 _ ?_
    refine XS.iconst X0.here hx rfl (hb hby at_0) ?_
    show Steps p.tables e below (s₁.setTop (mkF m 1 #[.val (.int x0), .unset, .unset, .unset] [(.int (5 : Int32))])) _
    refine st1 _ ?_
    show Steps p.tables e below (T1.setTop (mkF m 4 #[.val (.int x0), .unset, .unset, .unset] [(.ref b1)])) _
    refine XS.dup X1.here hx rfl (hb hby at_4) rfl rfl ?_
    show Steps p.tables e below (T1.setTop (mkF m 5 #[.val (.int x0), .unset, .unset, .unset] [(.ref b1), (.ref b1)])) _
    refine XS.iconst X1.here hx rfl (hb hby at_5) ?_
    show Steps p.tables e below (T1.setTop (mkF m 6 #[.val (.int x0), .unset, .unset, .unset] [(.int (0 : Int32)), (.ref b1), (.ref b1)])) _
    refine st3 _ ?_
    show Steps p.tables e below (T3.setTop (mkF m 9 #[.val (.int x0), .unset, .unset, .unset] [(.ref w_STARTED), (.int (0 : Int32)), (.ref b1), (.ref b1)])) _
    refine st5 _ ?_
    show Steps p.tables e below (T5.setTop (mkF m 10 #[.val (.int x0), .unset, .unset, .unset] [(.ref b1)])) _
    refine XS.dup X5.here hx rfl (hb hby at_10) rfl rfl ?_
    show Steps p.tables e below (T5.setTop (mkF m 11 #[.val (.int x0), .unset, .unset, .unset] [(.ref b1), (.ref b1)])) _
    refine XS.iconst X5.here hx rfl (hb hby at_11) ?_
    show Steps p.tables e below (T5.setTop (mkF m 12 #[.val (.int x0), .unset, .unset, .unset] [(.int (1 : Int32)), (.ref b1), (.ref b1)])) _
    refine st7 _ ?_
    show Steps p.tables e below (T7.setTop (mkF m 15 #[.val (.int x0), .unset, .unset, .unset] [(.ref w_FINISHED), (.int (1 : Int32)), (.ref b1), (.ref b1)])) _
    refine st9 _ ?_
    show Steps p.tables e below (T9.setTop (mkF m 16 #[.val (.int x0), .unset, .unset, .unset] [(.ref b1)])) _
    refine XS.dup X9.here hx rfl (hb hby at_16) rfl rfl ?_
    show Steps p.tables e below (T9.setTop (mkF m 17 #[.val (.int x0), .unset, .unset, .unset] [(.ref b1), (.ref b1)])) _
    refine XS.iconst X9.here hx rfl (hb hby at_17) ?_
    show Steps p.tables e below (T9.setTop (mkF m 18 #[.val (.int x0), .unset, .unset, .unset] [(.int (2 : Int32)), (.ref b1), (.ref b1)])) _
    refine st11 _ ?_
    show Steps p.tables e below (T11.setTop (mkF m 21 #[.val (.int x0), .unset, .unset, .unset] [(.ref w_FAILING_BACK), (.int (2 : Int32)), (.ref b1), (.ref b1)])) _
    refine st13 _ ?_
    show Steps p.tables e below (T13.setTop (mkF m 22 #[.val (.int x0), .unset, .unset, .unset] [(.ref b1)])) _
    refine XS.dup X13.here hx rfl (hb hby at_22) rfl rfl ?_
    show Steps p.tables e below (T13.setTop (mkF m 23 #[.val (.int x0), .unset, .unset, .unset] [(.ref b1), (.ref b1)])) _
    refine XS.iconst X13.here hx rfl (hb hby at_23) ?_
    show Steps p.tables e below (T13.setTop (mkF m 24 #[.val (.int x0), .unset, .unset, .unset] [(.int (3 : Int32)), (.ref b1), (.ref b1)])) _
    refine st15 _ ?_
    show Steps p.tables e below (T15.setTop (mkF m 27 #[.val (.int x0), .unset, .unset, .unset] [(.ref w_FINALIZING), (.int (3 : Int32)), (.ref b1), (.ref b1)])) _
    refine st17 _ ?_
    show Steps p.tables e below (T17.setTop (mkF m 28 #[.val (.int x0), .unset, .unset, .unset] [(.ref b1)])) _
    refine XS.dup X17.here hx rfl (hb hby at_28) rfl rfl ?_
    show Steps p.tables e below (T17.setTop (mkF m 29 #[.val (.int x0), .unset, .unset, .unset] [(.ref b1), (.ref b1)])) _
    refine XS.iconst X17.here hx rfl (hb hby at_29) ?_
    show Steps p.tables e below (T17.setTop (mkF m 30 #[.val (.int x0), .unset, .unset, .unset] [(.int (4 : Int32)), (.ref b1), (.ref b1)])) _
    refine st19 _ ?_
    show Steps p.tables e below (T19.setTop (mkF m 33 #[.val (.int x0), .unset, .unset, .unset] [(.ref w_ENDED), (.int (4 : Int32)), (.ref b1), (.ref b1)])) _
    refine st21 _ ?_
    show Steps p.tables e below (T21.setTop (mkF m 34 #[.val (.int x0), .unset, .unset, .unset] [(.ref b1)])) _
    refine XS.astoreN X21.here hx rfl (hb hby at_34) rfl rfl (l' := #[.val (.int x0), .val (.ref b1), .unset, .unset]) rfl ?_
    show Steps p.tables e below (T21.setTop (mkF m 35 #[.val (.int x0), .val (.ref b1), .unset, .unset] [])) _
    refine XS.aloadN X21.here hx rfl (hb hby at_35) rfl rfl ?_
    show Steps p.tables e below (T21.setTop (mkF m 36 #[.val (.int x0), .val (.ref b1), .unset, .unset] [(.ref b1)])) _
    refine XS.iloadN X21.here hx rfl (hb hby at_36) rfl ?_
    show Steps p.tables e below (T21.setTop (mkF m 37 #[.val (.int x0), .val (.ref b1), .unset, .unset] [(.int x0), (.ref b1)])) _
    refine X21.ldcI hx hown (mvT hZ (ow14 hw)) rfl (hb hby at_37) ?_
    show Steps p.tables e below (T21.setTop (mkF m 39 #[.val (.int x0), .val (.ref b1), .unset, .unset] [(.int (2147483647 : Int32)), (.int x0), (.ref b1)])) _
    refine XS.iand X21.here hx rfl (hb hby at_39) rfl ?_
    show Steps p.tables e below (T21.setTop (mkF m 40 #[.val (.int x0), .val (.ref b1), .unset, .unset] [(.int (x0 &&& (2147483647 : Int32))), (.ref b1)])) _
    refine XS.iconst X21.here hx rfl (hb hby at_40) ?_
    show Steps p.tables e below (T21.setTop (mkF m 41 #[.val (.int x0), .val (.ref b1), .unset, .unset] [(.int (5 : Int32)), (.int (x0 &&& (2147483647 : Int32))), (.ref b1)])) _
    refine iremM (g := (mkF m 41 #[.val (.int x0), .val (.ref b1), .unset, .unset] [(.int (5 : Int32)), (.int (x0 &&& (2147483647 : Int32))), (.ref b1)])) X21 hx rfl (hb hby at_41) rfl (by decide) ?_
    show Steps p.tables e below (T21.setTop (mkF m 42 #[.val (.int x0), .val (.ref b1), .unset, .unset] [(.int ((x0 &&& (2147483647 : Int32)) % (5 : Int32))), (.ref b1)])) _
    exact kgo
  obtain ⟨i, hi⟩ : ∃ z, z = ((x0 &&& (2147483647 : Int32)) % (5 : Int32)) := ⟨_, rfl⟩
  have pre24 : ∀ tgt, Steps p.tables e below (T21.setTop (mkF m 42 #[.val (.int x0), .val (.ref b1), .unset, .unset] [(.int i), (.ref b1)])) tgt → Steps p.tables e below (s₁.setTop (entryFrame m #[(.int x0)] maxLocals)) tgt := by
    rw [hi]; exact pre23
  obtain ⟨cl25, Ar25, q25, S25, M25, H25, G25⟩ := id V21
  have hin25 : ¬ (i < 0 ∨ cl25.slots.size ≤ (i).toNatClampNeg) := inb_of S25 (own_in hi)
  have hat25 : cl25.slots[(i).toNatClampNeg]? = some (.ref (pk i w_STARTED w_FINISHED w_FAILING_BACK w_FINALIZING w_ENDED)) := H25.at hin25 (own_at hi)
  obtain ⟨T26, X26, e26, st26⟩ := getS2 X21 hx hZ hown (host := "") (Or.inl (ow6 hw)) Via.refl e21 (S_FINISHED.ext O22.2) (g := (mkF m 45 #[.val (.int x0), .val (.ref b1), .val (.ref (pk i w_STARTED w_FINISHED w_FAILING_BACK w_FINALIZING w_ENDED)), .unset] [(.ref (pk i w_STARTED w_FINISHED w_FAILING_BACK w_FINALIZING w_ENDED))])) rfl (hb hby at_45)
  have pre27 : ∀ tgt, Steps p.tables e below (T26.setTop (mkF m 48 #[.val (.int x0), .val (.ref b1), .val (.ref (pk i w_STARTED w_FINISHED w_FAILING_BACK w_FINALIZING w_ENDED)), .unset] [(.ref w_FINISHED), (.ref (pk i w_STARTED w_FINISHED w_FAILING_BACK w_FINALIZING w_ENDED))])) tgt → Steps p.tables e below (s₁.setTop (entryFrame m #[(.int x0)] maxLocals)) tgt := by
    intro tgt kgo
    refine pre24 _ ?_
    refine X21.aaload hx (j := i) (v := (.ref (pk i w_STARTED w_FINISHED w_FAILING_BACK w_FINALIZING w_ENDED))) (by rw [e21]; exact Ar25.1) (State.isArrayOf_alike hZ.alike Ar25.2.1) rfl Ar25.2.2 hin25 hat25 (g := (mkF m 42 #[.val (.int x0), .val (.ref b1), .unset, .unset] [(.int i), (.ref b1)])) rfl rfl (hb hby at_42) _ ?_
    show Steps p.tables e below (T21.setTop (mkF m 43 #[.val (.int x0), .val (.ref b1), .unset, .unset] [(.ref (pk i w_STARTED w_FINISHED w_FAILING_BACK w_FINALIZING w_ENDED))])) _
    refine XS.astoreN X21.here hx rfl (hb hby at_43) rfl rfl (l' := #[.val (.int x0), .val (.ref b1), .val (.ref (pk i w_STARTED w_FINISHED w_FAILING_BACK w_FINALIZING w_ENDED)), .unset]) rfl ?_
    show Steps p.tables e below (T21.setTop (mkF m 44 #[.val (.int x0), .val (.ref b1), .val (.ref (pk i w_STARTED w_FINISHED w_FAILING_BACK w_FINALIZING w_ENDED)), .unset] [])) _
    refine XS.aloadN X21.here hx rfl (hb hby at_44) rfl rfl ?_
    show Steps p.tables e below (T21.setTop (mkF m 45 #[.val (.int x0), .val (.ref b1), .val (.ref (pk i w_STARTED w_FINISHED w_FAILING_BACK w_FINALIZING w_ENDED)), .unset] [(.ref (pk i w_STARTED w_FINISHED w_FAILING_BACK w_FINALIZING w_ENDED))])) _
    refine st26 _ ?_
    show Steps p.tables e below (T26.setTop (mkF m 48 #[.val (.int x0), .val (.ref b1), .val (.ref (pk i w_STARTED w_FINISHED w_FAILING_BACK w_FINALIZING w_ENDED)), .unset] [(.ref w_FINISHED), (.ref (pk i w_STARTED w_FINISHED w_FAILING_BACK w_FINALIZING w_ENDED))])) _
    exact kgo
  obtain ⟨T28, z, X28, e28, hz, pre28⟩ : ∃ (T' : State) (z : Int32), Stand p l e room_1 s m #[(.int x0)] below meth c T' ((((([] ++ [⟨b1, ((0 : Int32)).toNatClampNeg⟩]) ++ [⟨b1, ((1 : Int32)).toNatClampNeg⟩]) ++ [⟨b1, ((2 : Int32)).toNatClampNeg⟩]) ++ [⟨b1, ((3 : Int32)).toNatClampNeg⟩]) ++ [⟨b1, ((4 : Int32)).toNatClampNeg⟩]) 1 5 ∧ T'.heap = h21 ∧ z = (if (pk i w_STARTED w_FINISHED w_FAILING_BACK w_FINALIZING w_ENDED) = w_FINISHED then (0 : Int32) else (if (pk i w_STARTED w_FINISHED w_FAILING_BACK w_FINALIZING w_ENDED) = w_ENDED then (0 : Int32) else (1 : Int32))) ∧ ∀ tgt, Steps p.tables e below (T'.setTop (mkF m 63 #[.val (.int x0), .val (.ref b1), .val (.ref (pk i w_STARTED w_FINISHED w_FAILING_BACK w_FINALIZING w_ENDED)), .unset] [(.int z)])) tgt → Steps p.tables e below (s₁.setTop (entryFrame m #[(.int x0)] maxLocals)) tgt := by
    by_cases hc48_29 : (pk i w_STARTED w_FINISHED w_FAILING_BACK w_FINALIZING w_ENDED) = w_FINISHED
    · have pre30 : ∀ tgt, Steps p.tables e below (T26.setTop (mkF m 63 #[.val (.int x0), .val (.ref b1), .val (.ref (pk i w_STARTED w_FINISHED w_FAILING_BACK w_FINALIZING w_ENDED)), .unset] [(.int (0 : Int32))])) tgt → Steps p.tables e below (s₁.setTop (entryFrame m #[(.int x0)] maxLocals)) tgt := by
        intro tgt kgo
        refine pre27 _ ?_
        refine Jvm.RoadKit.acmp (g := (mkF m 48 #[.val (.int x0), .val (.ref b1), .val (.ref (pk i w_STARTED w_FINISHED w_FAILING_BACK w_FINALIZING w_ENDED)), .unset] [(.ref w_FINISHED), (.ref (pk i w_STARTED w_FINISHED w_FAILING_BACK w_FINALIZING w_ENDED))])) X26 hx rfl rfl rfl (pc0 := 48) (pc' := 62) (same := true) rfl (hb hby at_48) rfl (decide_eq_true (congrArg Value.ref hc48_29)) (by decide) (by decide) ?_
        show Steps p.tables e below (T26.setTop (mkF m 62 #[.val (.int x0), .val (.ref b1), .val (.ref (pk i w_STARTED w_FINISHED w_FAILING_BACK w_FINALIZING w_ENDED)), .unset] [])) _
        refine XS.iconst X26.here hx rfl (hb hby at_62) ?_
        show Steps p.tables e below (T26.setTop (mkF m 63 #[.val (.int x0), .val (.ref b1), .val (.ref (pk i w_STARTED w_FINISHED w_FAILING_BACK w_FINALIZING w_ENDED)), .unset] [(.int (0 : Int32))])) _
        exact kgo
      exact ⟨T26, (0 : Int32), X26, e26, (by simp only [if_pos hc48_29]), pre30⟩
    · obtain ⟨T31, X31, e31, st31⟩ := getS2 X26 hx hZ hown (host := "") (Or.inl (ow12 hw)) Via.refl e26 (S_ENDED.ext O22.2) (g := (mkF m 52 #[.val (.int x0), .val (.ref b1), .val (.ref (pk i w_STARTED w_FINISHED w_FAILING_BACK w_FINALIZING w_ENDED)), .unset] [(.ref (pk i w_STARTED w_FINISHED w_FAILING_BACK w_FINALIZING w_ENDED))])) rfl (hb hby at_52)
      have pre32 : ∀ tgt, Steps p.tables e below (T31.setTop (mkF m 55 #[.val (.int x0), .val (.ref b1), .val (.ref (pk i w_STARTED w_FINISHED w_FAILING_BACK w_FINALIZING w_ENDED)), .unset] [(.ref w_ENDED), (.ref (pk i w_STARTED w_FINISHED w_FAILING_BACK w_FINALIZING w_ENDED))])) tgt → Steps p.tables e below (s₁.setTop (entryFrame m #[(.int x0)] maxLocals)) tgt := by
        intro tgt kgo
        refine pre27 _ ?_
        refine Jvm.RoadKit.acmp (g := (mkF m 48 #[.val (.int x0), .val (.ref b1), .val (.ref (pk i w_STARTED w_FINISHED w_FAILING_BACK w_FINALIZING w_ENDED)), .unset] [(.ref w_FINISHED), (.ref (pk i w_STARTED w_FINISHED w_FAILING_BACK w_FINALIZING w_ENDED))])) X26 hx rfl rfl rfl (pc0 := 48) (pc' := 51) (same := false) rfl (hb hby at_48) rfl (decide_eq_false (fun q => hc48_29 (Value.ref.inj q))) (by decide) (by decide) ?_
        show Steps p.tables e below (T26.setTop (mkF m 51 #[.val (.int x0), .val (.ref b1), .val (.ref (pk i w_STARTED w_FINISHED w_FAILING_BACK w_FINALIZING w_ENDED)), .unset] [])) _
        refine XS.aloadN X26.here hx rfl (hb hby at_51) rfl rfl ?_
        show Steps p.tables e below (T26.setTop (mkF m 52 #[.val (.int x0), .val (.ref b1), .val (.ref (pk i w_STARTED w_FINISHED w_FAILING_BACK w_FINALIZING w_ENDED)), .unset] [(.ref (pk i w_STARTED w_FINISHED w_FAILING_BACK w_FINALIZING w_ENDED))])) _
        refine st31 _ ?_
        show Steps p.tables e below (T31.setTop (mkF m 55 #[.val (.int x0), .val (.ref b1), .val (.ref (pk i w_STARTED w_FINISHED w_FAILING_BACK w_FINALIZING w_ENDED)), .unset] [(.ref w_ENDED), (.ref (pk i w_STARTED w_FINISHED w_FAILING_BACK w_FINALIZING w_ENDED))])) _
        exact kgo
      by_cases hc55_33 : (pk i w_STARTED w_FINISHED w_FAILING_BACK w_FINALIZING w_ENDED) = w_ENDED
      · have pre34 : ∀ tgt, Steps p.tables e below (T31.setTop (mkF m 63 #[.val (.int x0), .val (.ref b1), .val (.ref (pk i w_STARTED w_FINISHED w_FAILING_BACK w_FINALIZING w_ENDED)), .unset] [(.int (0 : Int32))])) tgt → Steps p.tables e below (s₁.setTop (entryFrame m #[(.int x0)] maxLocals)) tgt := by
          intro tgt kgo
          refine pre32 _ ?_
          refine Jvm.RoadKit.acmp (g := (mkF m 55 #[.val (.int x0), .val (.ref b1), .val (.ref (pk i w_STARTED w_FINISHED w_FAILING_BACK w_FINALIZING w_ENDED)), .unset] [(.ref w_ENDED), (.ref (pk i w_STARTED w_FINISHED w_FAILING_BACK w_FINALIZING w_ENDED))])) X31 hx rfl rfl rfl (pc0 := 55) (pc' := 62) (same := true) rfl (hb hby at_55) rfl (decide_eq_true (congrArg Value.ref hc55_33)) (by decide) (by decide) ?_
          show Steps p.tables e below (T31.setTop (mkF m 62 #[.val (.int x0), .val (.ref b1), .val (.ref (pk i w_STARTED w_FINISHED w_FAILING_BACK w_FINALIZING w_ENDED)), .unset] [])) _
          refine XS.iconst X31.here hx rfl (hb hby at_62) ?_
          show Steps p.tables e below (T31.setTop (mkF m 63 #[.val (.int x0), .val (.ref b1), .val (.ref (pk i w_STARTED w_FINISHED w_FAILING_BACK w_FINALIZING w_ENDED)), .unset] [(.int (0 : Int32))])) _
          exact kgo
        exact ⟨T31, (0 : Int32), X31, e31, (by simp only [if_neg hc48_29, if_pos hc55_33]), pre34⟩
      · have pre35 : ∀ tgt, Steps p.tables e below (T31.setTop (mkF m 63 #[.val (.int x0), .val (.ref b1), .val (.ref (pk i w_STARTED w_FINISHED w_FAILING_BACK w_FINALIZING w_ENDED)), .unset] [(.int (1 : Int32))])) tgt → Steps p.tables e below (s₁.setTop (entryFrame m #[(.int x0)] maxLocals)) tgt := by
          intro tgt kgo
          refine pre32 _ ?_
          refine Jvm.RoadKit.acmp (g := (mkF m 55 #[.val (.int x0), .val (.ref b1), .val (.ref (pk i w_STARTED w_FINISHED w_FAILING_BACK w_FINALIZING w_ENDED)), .unset] [(.ref w_ENDED), (.ref (pk i w_STARTED w_FINISHED w_FAILING_BACK w_FINALIZING w_ENDED))])) X31 hx rfl rfl rfl (pc0 := 55) (pc' := 58) (same := false) rfl (hb hby at_55) rfl (decide_eq_false (fun q => hc55_33 (Value.ref.inj q))) (by decide) (by decide) ?_
          show Steps p.tables e below (T31.setTop (mkF m 58 #[.val (.int x0), .val (.ref b1), .val (.ref (pk i w_STARTED w_FINISHED w_FAILING_BACK w_FINALIZING w_ENDED)), .unset] [])) _
          refine XS.iconst X31.here hx rfl (hb hby at_58) ?_
          show Steps p.tables e below (T31.setTop (mkF m 59 #[.val (.int x0), .val (.ref b1), .val (.ref (pk i w_STARTED w_FINISHED w_FAILING_BACK w_FINALIZING w_ENDED)), .unset] [(.int (1 : Int32))])) _
          refine XS.goto X31.here hx rfl (pc0 := 59) (pc' := 63) rfl (hb hby at_59) (by decide) (by decide) ?_
          show Steps p.tables e below (T31.setTop (mkF m 63 #[.val (.int x0), .val (.ref b1), .val (.ref (pk i w_STARTED w_FINISHED w_FAILING_BACK w_FINALIZING w_ENDED)), .unset] [(.int (1 : Int32))])) _
          exact kgo
        exact ⟨T31, (1 : Int32), X31, e31, (by simp only [if_neg hc48_29, if_neg hc55_33]), pre35⟩
  obtain ⟨cq36, kq36, q36a, q36b, q36c⟩ := isOf hZ e28 ((own_pkE i E_STARTED E_FINISHED E_FAILING_BACK E_FINALIZING E_ENDED).ext O22.2)
  obtain ⟨_, _, ⟨T36, L36, k36, n36⟩, -, X36, ⟨Lc36, hQ36, l36, y36, z36⟩, st36⟩ := X28.virtualBack hx (y := (⟨"com/example/redress/redress/check/Instance$State", "running", "()Z"⟩ : MethodName)) (z := (⟨"com/example/redress/redress/check/Instance$State", "running", "()Z"⟩ : MethodName)) hown (mvT hZ (ow15 hw)) (mvT hZ (ow16 hw)) (notFace_of_selects (args := #[]) (mvT hZ (ow18 hw))) (mvT hZ (ow18 hw)) (mvT hZ (ow17 hw)) (by decide) (backOf (W := 0) (rmrn l Z a0 hw [] (pk i w_STARTED w_FINISHED w_FAILING_BACK w_FINALIZING w_ENDED) w_STARTED w_FAILING_BACK w_FINALIZING h21 n0 O22 S_STARTED S_FAILING_BACK S_FINALIZING) hZ (ow19 hw) (ow3 hw) (by decide) (by decide)) q36a q36c (g := (mkF m 65 #[.val (.int x0), .val (.ref b1), .val (.ref (pk i w_STARTED w_FINISHED w_FAILING_BACK w_FINALIZING w_ENDED)), .val (.int z)] [(.ref (pk i w_STARTED w_FINISHED w_FAILING_BACK w_FINALIZING w_ENDED))])) rfl (by rw [hml]; rfl) (Steps.refl _) (argsL := []) (rest := []) (lenOf pd0 rfl) rfl (by show 2 * 0 + _ ≤ _; exact Nat.le_of_eq rfl) (hb hby at_65) (fun _ _ => ⟨rfl, e28, (by decide : 1 + 0 ≤ _), (by decide : 5 + 0 ≤ _)⟩)
  dsimp only [Pt.U, Pt.locs, Pt.cells, Pt.slots] at X36 l36 y36 z36 st36 hQ36
  subst l36 y36 z36
  obtain ⟨rfl, Nq36, eq36⟩ := hQ36
  have N37 := Fr.app N22 Nq36
  obtain ⟨fs, hr, hrun, hended, hW, hsame⟩ := X36.leave (v := some (.int (1 : Int32))) (fun h => by rw [Bd.returns] at h; cases h)
  refine ⟨_, _, pre28 _ ?_, hrun, hended, _, _, rfl, ?_, ⟨_, rfl⟩, hW, hsame.mono (by decide) (by decide)⟩
  · refine XS.istoreN X28.here hx rfl (hb hby at_63) rfl (l' := #[.val (.int x0), .val (.ref b1), .val (.ref (pk i w_STARTED w_FINISHED w_FAILING_BACK w_FINALIZING w_ENDED)), .val (.int z)]) rfl ?_
    show Steps p.tables e below (T28.setTop (mkF m 64 #[.val (.int x0), .val (.ref b1), .val (.ref (pk i w_STARTED w_FINISHED w_FAILING_BACK w_FINALIZING w_ENDED)), .val (.int z)] [])) _
    refine XS.aloadN X28.here hx rfl (hb hby at_64) rfl rfl ?_
    show Steps p.tables e below (T28.setTop (mkF m 65 #[.val (.int x0), .val (.ref b1), .val (.ref (pk i w_STARTED w_FINISHED w_FAILING_BACK w_FINALIZING w_ENDED)), .val (.int z)] [(.ref (pk i w_STARTED w_FINISHED w_FAILING_BACK w_FINALIZING w_ENDED))])) _
    refine st36.trans ?_
    show Steps p.tables e below (T36.setTop (mkF m 68 #[.val (.int x0), .val (.ref b1), .val (.ref (pk i w_STARTED w_FINISHED w_FAILING_BACK w_FINALIZING w_ENDED)), .val (.int z)] [(.int (rn (pk i w_STARTED w_FINISHED w_FAILING_BACK w_FINALIZING w_ENDED) w_STARTED w_FAILING_BACK w_FINALIZING))])) _
    refine XS.iloadN X36.here hx rfl (hb hby at_68) rfl ?_
    show Steps p.tables e below (T36.setTop (mkF m 69 #[.val (.int x0), .val (.ref b1), .val (.ref (pk i w_STARTED w_FINISHED w_FAILING_BACK w_FINALIZING w_ENDED)), .val (.int z)] [(.int z), (.int (rn (pk i w_STARTED w_FINISHED w_FAILING_BACK w_FINALIZING w_ENDED) w_STARTED w_FAILING_BACK w_FINALIZING))])) _
    refine XS.icmpNo X36.here hx rfl (hb hby at_69) rfl (teq (own_law hi hz (F_STARTED_ordinal.ne F_FINISHED_ordinal (by decide)) (F_STARTED_ordinal.ne F_ENDED_ordinal (by decide)) (F_FAILING_BACK_ordinal.ne F_FINISHED_ordinal (by decide)) (F_FAILING_BACK_ordinal.ne F_ENDED_ordinal (by decide)) (F_FINALIZING_ordinal.ne F_FINISHED_ordinal (by decide)) (F_FINALIZING_ordinal.ne F_ENDED_ordinal (by decide)))).2 ?_
    show Steps p.tables e below (T36.setTop (mkF m 72 #[.val (.int x0), .val (.ref b1), .val (.ref (pk i w_STARTED w_FINISHED w_FAILING_BACK w_FINALIZING w_ENDED)), .val (.int z)] [])) _
    refine XS.iconst X36.here hx rfl (hb hby at_72) ?_
    show Steps p.tables e below (T36.setTop (mkF m 73 #[.val (.int x0), .val (.ref b1), .val (.ref (pk i w_STARTED w_FINISHED w_FAILING_BACK w_FINALIZING w_ENDED)), .val (.int z)] [(.int (1 : Int32))])) _
    refine XS.goto X36.here hx rfl (pc0 := 73) (pc' := 77) rfl (hb hby at_73) (by decide) (by decide) ?_
    show Steps p.tables e below (T36.setTop (mkF m 77 #[.val (.int x0), .val (.ref b1), .val (.ref (pk i w_STARTED w_FINISHED w_FAILING_BACK w_FINALIZING w_ENDED)), .val (.int z)] [(.int (1 : Int32))])) _
    exact retOut X36 hx Bd.returns rfl (Or.inl ⟨rfl, Or.inr (Or.inl rfl), _, rfl⟩) (hb hby at_77) hr
  · show Q_rm0 Z x0 w_STARTED w_FINISHED w_FAILING_BACK w_FINALIZING w_ENDED h0 n0 _ T36.heap _
    rw [eq36]
    exact ⟨rfl, N37⟩
set_option maxRecDepth 65536 in
set_option maxHeartbeats 40000000 in
theorem comes_1 {Post : Tables → Env → Array Value → State → Outcome → State → Prop} (hpost : ∀ tb e args s v u, (limb_1_1.after args s (.returned v) u = true ∧ limb_1_2.after args s (.returned v) u = true ∧ True) → FrameEnd s (.returned v) u (Jvm.fieldLocs frame_1_writes args s ++ Jvm.arrayLocs frame_1_arrays args s ++ Jvm.staticLocs frame_1_statics s) 16 128 → Post tb e args s (.returned v) u) :
    ArmFor flags0 classFile x code maxLocals ret World_1 tables_1 room_1 Calls_1 rest_1 Pre_1 Post := by
  intro l hfl _ _ p e ha hc hk s m args below hf hA hF happ hP
  obtain ⟨hcalls, hrest, hpre⟩ := hP
  obtain ⟨-, -, -, hnamed, -, -, -, hat⟩ := (Spec.applies_iff hf).mp happ
  obtain ⟨hg, hn⟩ := and_e (Cond.before_iff.mp (show (Jvm.Cond.and given_1 narrow_1).before args s = true from hpre))
  obtain ⟨u1, v1⟩ := and_e hg
  obtain ⟨w0, rfl⟩ : ∃ w0 : Value, args = #[w0] := by
    have hs : args.size = 1 := by simpa [Cond.value, given_1] using u1
    obtain ⟨L⟩ := args
    match L, hs with
    | [w0], _ => exact ⟨w0, rfl⟩
  have hw := fun d (hd : d ∈ tables_1) => atoms_spec (ws := Jvm.Cond.code x code maxLocals ret :: tables_1) hat d (List.mem_cons_of_mem _ hd)
  have hfit : Fit s := fun {y c} hc i hi => by
    obtain ⟨ha, rfl⟩ := Array.getElem?_eq_some_iff.mp hc
    have q := List.all_eq_true.mp ((Array.all_eq_true_iff_forall_mem.mp hF) _ (Array.getElem_mem ha)) i (List.mem_range.mpr hi)
    simpa [Array.getElem?_eq_getElem hi] using q
  obtain ⟨i0, ei0⟩ := is_v v1
  obtain rfl : w0 = (.int i0) := Option.some.inj ei0
  obtain ⟨nu1, nv1⟩ := and_e hn
  obtain ⟨nu2, nv2⟩ := and_e nv1
  obtain ⟨nu3, nv3⟩ := and_e nv2
  obtain ⟨nu4, nv4⟩ := and_e nv3
  obtain ⟨nu5, nv5⟩ := and_e nv4
  obtain ⟨nu6, nv6⟩ := and_e nv5
  obtain ⟨nu7, nv7⟩ := and_e nv6
  obtain ⟨nu8, nv8⟩ := and_e nv7
  obtain ⟨nu9, nv9⟩ := and_e nv8
  obtain ⟨w_STARTED, S_STARTED, E_STARTED, ev_STARTED⟩ := own_sta nu1 (ow3 hw) (ow4 hw)
  obtain ⟨w_FINISHED, S_FINISHED, E_FINISHED, ev_FINISHED⟩ := own_sta nu2 (ow3 hw) (ow7 hw)
  obtain ⟨w_FAILING_BACK, S_FAILING_BACK, E_FAILING_BACK, ev_FAILING_BACK⟩ := own_sta nu3 (ow3 hw) (ow9 hw)
  obtain ⟨w_FINALIZING, S_FINALIZING, E_FINALIZING, ev_FINALIZING⟩ := own_sta nu4 (ow3 hw) (ow11 hw)
  obtain ⟨w_ENDED, S_ENDED, E_ENDED, ev_ENDED⟩ := own_sta nu5 (ow3 hw) (ow13 hw)
  have F_STARTED_ordinal := own_fint ev_STARTED nu6
  have F_FINISHED_ordinal := own_fint ev_FINISHED nu7
  have F_ENDED_ordinal := own_fint ev_ENDED nu8
  have F_FINALIZING_ordinal := own_fint ev_FINALIZING nu9
  have F_FAILING_BACK_ordinal := own_fint ev_FAILING_BACK nv9
  obtain ⟨n, o, h1, h2, h3, _, L, rfl, ⟨rfl, N⟩, hq⟩ := rm0 l s _ hw tables_1 i0 w_STARTED w_FINISHED w_FAILING_BACK w_FINALIZING w_ENDED s.heap s.heap.size (Old.start s) S_STARTED E_STARTED S_FINISHED E_FINISHED S_FAILING_BACK E_FAILING_BACK S_FINALIZING E_FINALIZING S_ENDED E_ENDED F_STARTED_ordinal F_FINISHED_ordinal F_ENDED_ordinal F_FINALIZING_ordinal F_FAILING_BACK_ordinal p e ha hc hk s m _ below hf ((Spec.applies_iff_loose hf).mp happ).1 ⟨rfl, State.Warmed39.refl s, rfl⟩ trivial
  refine ⟨n, _, h1, h2, h3, hpost _ _ _ _ _ _ ⟨Cond.after_iff.mpr rfl, Cond.after_iff.mpr (eq_i res_at (Term.int_eval (1)) rfl), trivial⟩ ⟨hq.1, hq.2.1, (hq.2.2.sift fun y hy => Or.inr (N y hy)).mono (by decide) (by decide)⟩⟩
theorem main_1_1 : Claimed_1_1 := comes_1 fun _ _ _ _ _ _ h hF => ⟨h.1, hF⟩
theorem main_1_2 : Claimed_1_2 := comes_1 fun _ _ _ _ _ _ h hF => ⟨h.2.1, hF⟩
end Jvm.Pilot.@@N@@
namespace Jvm.Pilot.@@N@@
open Jvm Jvm.ClassFile Sem Op Lib Jvm.Free Jvm.Stand Jvm.Pilot.@@N@@.Jvm.D
/-! MADE BY PROGRAM (witnessworld.py) out of the Statement's table words and the real class files: 13 classes; the members and pool entries that the words name. The judged class is class 1, her method 1. -/
namespace start1
open Jvm.ClassFile
def u (s : String) : CpInfo := .utf8 (stringToUtf16 s)
/-- a pool by its gaps: so many unusable entries, then the entry; so many at the end -/
def gap : Nat → List CpInfo → List CpInfo
  | 0, r => r
  | n + 1, r => .unusable :: gap n r
def poolList (es : List (Nat × CpInfo)) (last : Nat) : List CpInfo := es.foldr (fun e r => gap e.1 (e.2 :: r)) (gap last [])
def pool (es : List (Nat × CpInfo)) (last : Nat) : Array CpInfo := ⟨poolList es last⟩
def fileOf (pool : Array CpInfo) (this : Nat) (attrs : Array Attribute := #[]) (ms : Array MethodInfo := #[]) (fl : Nat := 33) (sup : Nat := 0) (ifs : Array Nat := #[]) (fds : Array FieldInfo := #[]) : ClassFile where
  minorVersion := 0
  majorVersion := 65
  constantPool := pool
  accessFlags := fl
  thisClass := this
  superClass := sup
  interfaces := ifs
  fields := fds
  methods := ms
  attributes := attrs
def plain (name : String) (sup : Option ClassId) : Class where
  name := name
  kind := .ordinary
  loader := none
  accessFlags := 33
  super := sup
  interfaces := #[]
  cf := none
  fields := #[]
  methods := #[]
  instanceTypes := #[]
  staticTypes := #[]
  resolved := #[]
  callSites := []
  init := .initialized
  statics := none
  mirror := none

def pool0 : Array CpInfo := pool [(5, u "<init>"), (0, u "()V"), (1, .class_ 10), (1, u "java/lang/Object")] 113

def k0m0 : Method := { name := "<init>", desc := "()V", sig := { parameters := [], returnType := none }, accessFlags := 1, code := none }
/-- java/lang/Object -/
def k0 : Class := { plain "java/lang/Object" none with
  accessFlags := 33
  interfaces := #[]
  cf := some (fileOf pool0 8 #[] #[{ accessFlags := 1, nameIndex := 5, descriptorIndex := 6, attributes := #[] }] 33 0 #[] #[])
  fields := #[]
  methods := #[k0m0]
  instanceTypes := #[]
  staticTypes := #[]
  resolved := Array.replicate 124 none
  statics := none }

def pool1 : Array CpInfo := pool [(2, .class_ 4), (1, u "java/lang/Object"), (0, u "<init>"), (0, u "()V"), (0, .class_ 8), (0, u "com/example/redress/redress/check/Instance$State"), (0, .fieldref 7 10), (0, .nameAndType 11 12), (0, u "STARTED"), (0, u "Lcom/example/redress/redress/check/Instance$State;"), (0, .fieldref 7 14), (0, .nameAndType 15 12), (0, u "FINISHED"), (0, .fieldref 7 17), (0, .nameAndType 18 12), (0, u "FAILING_BACK"), (0, .fieldref 7 20), (0, .nameAndType 21 12), (0, u "FINALIZING"), (0, .fieldref 7 23), (0, .nameAndType 24 12), (0, u "ENDED"), (0, .integer 2147483647), (0, .methodref 7 27), (0, .nameAndType 28 29), (0, u "running"), (0, u "()Z"), (0, .class_ 31), (0, u "com/example/redress/redress/check/StateRunningPinLaw"), (2, u "law"), (0, u "(I)Z")] 9

def k1m0 : Method := { name := "<init>", desc := "()V", sig := { parameters := [], returnType := none }, accessFlags := 1, code := none }
def k1c1 : Code := { maxStack := 4, maxLocals := 4, code := code, exceptionTable := #[], attributes := #[] }
def k1m1 : Method := { name := "law", desc := "(I)Z", sig := { parameters := [.int], returnType := some .boolean }, accessFlags := 9, code := some k1c1 }
/-- com/example/redress/redress/check/StateRunningPinLaw -/
def k1 : Class := { plain "com/example/redress/redress/check/StateRunningPinLaw" (some 0) with
  accessFlags := 49
  interfaces := #[]
  cf := some (fileOf pool1 30 #[] #[{ accessFlags := 1, nameIndex := 5, descriptorIndex := 6, attributes := #[] }, { accessFlags := 9, nameIndex := 34, descriptorIndex := 35, attributes := #[] }] 49 2 #[] #[])
  fields := #[]
  methods := #[k1m0, k1m1]
  instanceTypes := #[]
  staticTypes := #[]
  resolved := Array.replicate 45 none
  statics := none }

def pool2 : Array CpInfo := pool [(1, .class_ 2), (0, u "java/lang/constant/Constable"), (0, .class_ 4), (0, u "java/lang/Object")] 6

/-- java/lang/constant/Constable -/
def k2 : Class := { plain "java/lang/constant/Constable" (some 0) with
  accessFlags := 1537
  interfaces := #[]
  cf := some (fileOf pool2 1 #[] #[] 1537 3 #[] #[])
  fields := #[]
  methods := #[]
  instanceTypes := #[]
  staticTypes := #[]
  resolved := Array.replicate 11 none
  statics := none }

def pool3 : Array CpInfo := pool [(1, .class_ 2), (0, u "java/lang/Comparable"), (0, .class_ 4), (0, u "java/lang/Object")] 7

/-- java/lang/Comparable -/
def k3 : Class := { plain "java/lang/Comparable" (some 0) with
  accessFlags := 1537
  interfaces := #[]
  cf := some (fileOf pool3 1 #[] #[] 1537 3 #[] #[])
  fields := #[]
  methods := #[]
  instanceTypes := #[]
  staticTypes := #[]
  resolved := Array.replicate 12 none
  statics := none }

def pool4 : Array CpInfo := pool [(1, .class_ 2), (0, u "java/io/Serializable"), (0, .class_ 4), (0, u "java/lang/Object")] 2

/-- java/io/Serializable -/
def k4 : Class := { plain "java/io/Serializable" (some 0) with
  accessFlags := 1537
  interfaces := #[]
  cf := some (fileOf pool4 1 #[] #[] 1537 3 #[] #[])
  fields := #[]
  methods := #[]
  instanceTypes := #[]
  staticTypes := #[]
  resolved := Array.replicate 7 none
  statics := none }

def pool5 : Array CpInfo := pool [(2, .class_ 4), (1, u "java/lang/Enum"), (0, u "name"), (0, u "Ljava/lang/String;"), (2, u "ordinal"), (0, u "I"), (1, .class_ 14), (1, u "java/lang/Object"), (4, u "hash"), (86, .class_ 108), (1, u "java/lang/Enum$EnumDesc"), (2, .class_ 112), (0, u "java/lang/constant/Constable"), (0, .class_ 114), (0, u "java/lang/Comparable"), (0, .class_ 116), (0, u "java/io/Serializable")] 87

/-- java/lang/Enum -/
def k5 : Class := { plain "java/lang/Enum" (some 0) with
  accessFlags := 1057
  interfaces := #[2, 3, 4]
  cf := some (fileOf pool5 2 #[.nestMembers #[106]] #[] 1057 12 #[111, 113, 115] #[{ accessFlags := 18, nameIndex := 5, descriptorIndex := 6, attributes := #[] }, { accessFlags := 18, nameIndex := 9, descriptorIndex := 10, attributes := #[] }, { accessFlags := 2, nameIndex := 19, descriptorIndex := 10, attributes := #[] }])
  fields := #[{ name := "name", type := (.object "java/lang/String"), accessFlags := 18, slot := 0, constantValue := 0 }, { name := "ordinal", type := .int, accessFlags := 18, slot := 1, constantValue := 0 }, { name := "hash", type := .int, accessFlags := 2, slot := 2, constantValue := 0 }]
  methods := #[]
  instanceTypes := #[(.object "java/lang/String"), .int, .int]
  staticTypes := #[]
  resolved := Array.replicate 204 none
  statics := none }

def pool6 : Array CpInfo := pool [(1, .class_ 2), (0, u "com/example/redress/redress/check/Instance$State"), (0, .fieldref 1 4), (0, .nameAndType 5 6), (0, u "STARTED"), (0, u "Lcom/example/redress/redress/check/Instance$State;"), (2, u "FINISHED"), (0, .fieldref 1 11), (0, .nameAndType 12 6), (0, u "FAILING_BACK"), (0, .fieldref 1 14), (0, .nameAndType 15 6), (0, u "FINALIZING"), (2, u "ENDED"), (2, u "$VALUES"), (0, u "[Lcom/example/redress/redress/check/Instance$State;"), (6, .class_ 31), (1, u "java/lang/Enum"), (23, u "running"), (0, u "()Z"), (6, .class_ 64), (0, u "com/example/redress/redress/check/Instance")] 2

def k6c0 : Code := { maxStack := 2, maxLocals := 1, code := prog_14_method_4_code, exceptionTable := #[], attributes := #[] }
def k6m0 : Method := { name := "running", desc := "()Z", sig := { parameters := [], returnType := some .boolean }, accessFlags := 0, code := some k6c0 }
/-- com/example/redress/redress/check/Instance$State -/
def k6 : Class := { plain "com/example/redress/redress/check/Instance$State" (some 5) with
  accessFlags := 16432
  interfaces := #[]
  cf := some (fileOf pool6 1 #[.nestHost 63] #[{ accessFlags := 0, nameIndex := 55, descriptorIndex := 56, attributes := #[] }] 16432 29 #[] #[{ accessFlags := 16409, nameIndex := 5, descriptorIndex := 6, attributes := #[] }, { accessFlags := 16409, nameIndex := 9, descriptorIndex := 6, attributes := #[] }, { accessFlags := 16409, nameIndex := 12, descriptorIndex := 6, attributes := #[] }, { accessFlags := 16409, nameIndex := 15, descriptorIndex := 6, attributes := #[] }, { accessFlags := 16409, nameIndex := 18, descriptorIndex := 6, attributes := #[] }, { accessFlags := 4122, nameIndex := 21, descriptorIndex := 22, attributes := #[] }])
  fields := #[{ name := "STARTED", type := (.object "com/example/redress/redress/check/Instance$State"), accessFlags := 16409, slot := 0, constantValue := 0 }, { name := "FINISHED", type := (.object "com/example/redress/redress/check/Instance$State"), accessFlags := 16409, slot := 1, constantValue := 0 }, { name := "FAILING_BACK", type := (.object "com/example/redress/redress/check/Instance$State"), accessFlags := 16409, slot := 2, constantValue := 0 }, { name := "FINALIZING", type := (.object "com/example/redress/redress/check/Instance$State"), accessFlags := 16409, slot := 3, constantValue := 0 }, { name := "ENDED", type := (.object "com/example/redress/redress/check/Instance$State"), accessFlags := 16409, slot := 4, constantValue := 0 }, { name := "$VALUES", type := (.array (.object "com/example/redress/redress/check/Instance$State")), accessFlags := 4122, slot := 5, constantValue := 0 }]
  methods := #[k6m0]
  instanceTypes := #[(.object "java/lang/String"), .int, .int]
  staticTypes := #[(.object "com/example/redress/redress/check/Instance$State"), (.object "com/example/redress/redress/check/Instance$State"), (.object "com/example/redress/redress/check/Instance$State"), (.object "com/example/redress/redress/check/Instance$State"), (.object "com/example/redress/redress/check/Instance$State"), (.array (.object "com/example/redress/redress/check/Instance$State"))]
  resolved := Array.replicate 67 none
  statics := some 0 }

def pool7 : Array CpInfo := pool [(1, u "java/lang/Cloneable"), (0, .class_ 1), (0, u "java/lang/Object"), (0, .class_ 3)] 3

/-- java/lang/Cloneable -/
def k7 : Class := { plain "java/lang/Cloneable" (some 0) with
  accessFlags := 1537
  interfaces := #[]
  cf := some (fileOf pool7 2 #[] #[] 1537 4 #[] #[])
  fields := #[]
  methods := #[]
  instanceTypes := #[]
  staticTypes := #[]
  resolved := Array.replicate 8 none
  statics := none }

/-- the primitive byte -/
def k8 : Class := { plain "byte" none with kind := .primitive 'B', accessFlags := 0x411 }
/-- [B -/
def k9 : Class := { plain "[B" (some 0) with kind := .array 8 .byte, interfaces := #[7, 4], accessFlags := 1041 }

/-- the primitive int -/
def k10 : Class := { plain "int" none with kind := .primitive 'I', accessFlags := 0x411 }
/-- [I -/
def k11 : Class := { plain "[I" (some 0) with kind := .array 10 .int, interfaces := #[7, 4], accessFlags := 1041 }

/-- [Lcom/example/redress/redress/check/Instance$State; -/
def k12 : Class := { plain "[Lcom/example/redress/redress/check/Instance$State;" (some 0) with kind := .array 6 (.object "com/example/redress/redress/check/Instance$State"), interfaces := #[7, 4], accessFlags := 1041 }

def heap : Heap := #[{ cls := 6, slots := #[.ref 1, .ref 2, .ref 3, .ref 4, .ref 5, .null], vm := .statics 6 },
  { cls := 6, slots := #[.null, .int 0, .int 0], vm := .none },
  { cls := 6, slots := #[.null, .int 1, .int 0], vm := .none },
  { cls := 6, slots := #[.null, .int 2, .int 0], vm := .none },
  { cls := 6, slots := #[.null, .int 3, .int 0], vm := .none },
  { cls := 6, slots := #[.null, .int 4, .int 0], vm := .none }]
def classes : Array Class := #[k0, k1, k2, k3, k4, k5, k6, k7, k8, k9, k10, k11, k12]
def interned : List (Array UInt16 × Addr) := []
def slotsUsed : Nat := 21
def theMethod : MethodId := ⟨1, 1⟩
def args0 : Array Value := #[.int 5]
def aboutOver (below : List Frame) : State where
  vm := { classes := classes, interned := interned.toArray }
  heap := heap
  slotsUsed := slotsUsed
  threads := #[{ frames := .invoking theMethod args0 :: below }]
def below0 : List Frame := [.native { method := ⟨0, 0⟩, args := #[] }]
def about1 : State := aboutOver below0
def p0 : Program := .bare "" "" ""
def e0 : Env := launch0.env 0 0 0
theorem w_frames : about1.frames = Frame.invoking theMethod args0 :: below0 := rfl
set_option maxRecDepth 65536 in
theorem w_args : argsFit about1.vm theMethod args0 = true := by decide +kernel
set_option maxRecDepth 65536 in
theorem w_heap : heapFits about1 = true := by decide +kernel
set_option maxRecDepth 65536 in
theorem w_runnable : about1.curStatus? = some .runnable := by decide +kernel
set_option maxRecDepth 65536 in
theorem w_alone : about1.alone = true := by decide +kernel
set_option maxRecDepth 65536 in
theorem w_named : about1.methodNamed? x = some theMethod := by decide +kernel
set_option maxRecDepth 65536 in
theorem w_hears : about1.hears theMethod below0 = true := by decide +kernel
set_option maxRecDepth 65536 in
theorem w_ripe : about1.ripe theMethod args0 below0 = true := by decide +kernel
theorem w_running : about1.status = .running := rfl
set_option maxRecDepth 65536 in
theorem w_room : about1.hasRoom e0.platform room_1 = true :=
  launch0.hasRoom_least _ room_1 (by decide +kernel) (by decide +kernel) (by decide +kernel) (by decide +kernel) (by decide +kernel) (by decide +kernel)
theorem allAtoms_all (ts : List Jvm.Cond) (a : Array Jvm.Value) (st : Jvm.State) : (allAtoms ts).before a st = ts.all (fun c => c.before a st) := by
  induction ts with
  | nil => rfl
  | cons c t ih =>
    show (Jvm.Cond.and c (allAtoms t)).before a st = _
    rw [Jvm.Cond.before_and, ih, List.all_cons]
def words1 : List Jvm.Cond := Jvm.Cond.code x code maxLocals ret :: tables_1
/-- a 'code' word, met by the world's own term for the bytes: nothing is compared byte by byte -/
theorem code_word {y : MethodName} {bytes : ByteArray} {mx : Nat} {rt : Option FieldType} {a : Array Value} {s : State} {m : MethodId} {meth : Method} {c : Code} (h1 : s.methodNamed? y = some m) (h2 : s.vm.method? m = some meth) (h3 : meth.code = some c) (h4 : c.code = bytes)
    (h5 : (c.maxLocals == mx && c.exceptionTable.isEmpty && decide (c.maxStack ≤ mostOperands) && decide (meth.sig.returnType = rt) && !meth.locks && decide (parseMethodDescriptor y.desc = some meth.sig)) = true) : (Jvm.Cond.code y bytes mx rt).before a s = true := by
  simp only [Bool.and_eq_true, beq_iff_eq, Bool.not_eq_true', decide_eq_true_eq] at h5
  obtain ⟨⟨⟨⟨⟨g1, g2⟩, g3⟩, g4⟩, g5⟩, g6⟩ := h5
  simp [Cond.before, Cond.holds, Cond.value, h1, h2, h3, h4, g1, g2, g3, g4, g5, g6]
def isCode : Jvm.Cond → Bool
  | .code _ _ _ _ => true
  | _ => false
theorem all_split {L : List Jvm.Cond} {P : Jvm.Cond → Bool} (h1 : L.all (fun c => isCode c || P c) = true) (h2 : ∀ c ∈ L.filter isCode, P c = true) : L.all P = true := by
  refine List.all_eq_true.mpr fun c hc => ?_
  have h := List.all_eq_true.mp h1 c hc
  rcases Bool.eq_false_or_eq_true (isCode c) with hi | hi
  · exact h2 c (List.mem_filter.mpr ⟨hc, hi⟩)
  · simpa [hi] using h
set_option maxRecDepth 65536 in
theorem w_c0 : (Jvm.Cond.code x code maxLocals ret).before args0 about1 = true := code_word (m := ⟨1, 1⟩) (meth := k1m1) (c := k1c1) (by decide +kernel) rfl rfl rfl (by decide +kernel)
set_option maxRecDepth 65536 in
theorem w_c1 : (Jvm.Cond.code ({ cls := "com/example/redress/redress/check/Instance$State", name := "running", desc := "()Z" } : Jvm.MethodName) prog_14_method_4_code (1 : Nat) (Option.some Jvm.ClassFile.FieldType.boolean)).before args0 about1 = true := code_word (m := ⟨6, 0⟩) (meth := k6m0) (c := k6c0) (by decide +kernel) rfl rfl rfl (by decide +kernel)
def codes1 : List Jvm.Cond := [Jvm.Cond.code x code maxLocals ret, Jvm.Cond.code ({ cls := "com/example/redress/redress/check/Instance$State", name := "running", desc := "()Z" } : Jvm.MethodName) prog_14_method_4_code (1 : Nat) (Option.some Jvm.ClassFile.FieldType.boolean)]
set_option maxRecDepth 65536 in
theorem codes_eq : words1.filter isCode = codes1 := rfl
theorem w_codes : ∀ c ∈ words1.filter isCode, c.before args0 about1 = true := by
  rw [codes_eq]
  intro c hc
  simp only [codes1, List.mem_cons, List.not_mem_nil, or_false] at hc
  rcases hc with rfl | rfl
  · exact w_c0
  · exact w_c1
set_option maxRecDepth 65536 in
theorem w_t1 : words1.all (fun c => isCode c || c.before args0 about1) = true := by decide +kernel
theorem w_tables : (allAtoms (Jvm.Cond.code x code maxLocals ret :: tables_1)).before args0 about1 = true := by
  rw [allAtoms_all]
  show words1.all (fun c => c.before args0 about1) = true
  refine all_split ?_ w_codes
  rw [w_t1]
set_option maxRecDepth 65536 in
theorem w_case : (Jvm.Cond.and given_1 narrow_1).before args0 about1 = true := by decide +kernel
theorem w_applies : (headSpec (Jvm.Cond.code x code maxLocals ret :: tables_1) room_1).applies x e0.platform about1 = true :=
  (Spec.applies_iff w_frames).mpr ⟨w_running, w_runnable, w_alone, w_named, w_hears, w_ripe, w_room, w_tables⟩
theorem atStart : AtStart classFile x code maxLocals ret World_1 tables_1 room_1 Calls_1 rest_1 Pre_1 launch0 p0 e0 about1 theMethod args0 below0 :=
  ⟨lists_1, trivial, launch0.admits_env _ _ _, launch0.least_env, fairChoices_fair.cas, fairChoices_fair.clock, w_frames, w_args, w_heap, w_applies, trivial, trivial, w_case⟩
end start1
theorem witness_1 : WitnessClaimed_1 := ⟨start1.p0, start1.e0, start1.about1, start1.theMethod, start1.args0, start1.below0, start1.atStart⟩
end Jvm.Pilot.@@N@@
