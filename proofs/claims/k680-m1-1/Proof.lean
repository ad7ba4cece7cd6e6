import JvmDerived
import JvmDerived.Pilot.@@N@@Statement
import JvmDerived.Pilot.@@N@@Code
set_option linter.unusedVariables false
set_option linter.unusedSimpArgs false
namespace Jvm.Pilot.@@N@@
open Jvm Jvm.ClassFile Sem Op Lib Jvm.Free Jvm.Stand Jvm.LawKit Jvm.RoadKit Bundle Jvm.Pilot.@@N@@.Jvm.D
/-! the plain part: ints and identities -/
def own_Q (w : Value) (h0 : Heap) (n0 : Nat) (v : Option Value) (h : Heap) (L : List Loc) : Prop := v = some w ∧ Fr n0 L ∧ h = h0
theorem own_fld {args : Array Value} {s : State} {t : Term} {a : Addr} {C n d : String} {k : Int32} (ht : t.eval args s none [] s = some (.ref a)) (h : (Jvm.Cond.eq (.field t C n d) (.int k)).value args s none s [] = some true) : s.fieldOf? a C n d = some (.int k) := by
  obtain ⟨x, y, e1, e2, -, k2⟩ := cmp_v (Or.inl h)
  rw [Term.int_eval] at e2
  cases e2
  obtain ⟨z, rfl⟩ := k2
  have q : (Jvm.Cond.eq (.field t C n d) (.int k)).value args s none s [] = some (decide (z = k)) := Cond.eq_ints e1 (Term.int_eval k)
  have hz : z = k := gotT q h
  subst hz
  rw [fld_at ht] at e1
  exact e1
theorem own_ne {s : State} {a b : Addr} {C n d : String} {x y : Int32} (h1 : s.fieldOf? a C n d = some (.int x)) (h2 : s.fieldOf? b C n d = some (.int y)) (h : x ≠ y) : ¬ (a = b) := fun q => by
  subst q
  rw [h1] at h2
  exact h (Value.int.inj (Option.some.inj h2))
theorem own_rem (x n : Int32) (d : Int) (hd : n.toInt = d) (h0 : 0 < d) : 0 ≤ ((x &&& (2147483647 : Int32)) % n).toInt ∧ ((x &&& (2147483647 : Int32)) % n).toInt < d := by
  have h := (c_and x (2147483647 : Int32) (by decide)).1
  rw [(c_irem _ n d hd).1 h]
  exact ⟨Int.emod_nonneg _ (by omega), Int.emod_lt_of_pos _ h0⟩
theorem own_few6 (x : Int32) (h0 : 0 ≤ x.toInt) (h1 : x.toInt < 6) : x = (0 : Int32) ∨ x = (1 : Int32) ∨ x = (2 : Int32) ∨ x = (3 : Int32) ∨ x = (4 : Int32) ∨ x = (5 : Int32) := by
  have q : x.toInt = 0 ∨ x.toInt = 1 ∨ x.toInt = 2 ∨ x.toInt = 3 ∨ x.toInt = 4 ∨ x.toInt = 5 := by omega
  rcases q with q | q | q | q | q | q
  · exact (Or.inl (Int32.toInt_inj.mp (q.trans (by decide))))
  · exact (Or.inr (Or.inl (Int32.toInt_inj.mp (q.trans (by decide)))))
  · exact (Or.inr (Or.inr (Or.inl (Int32.toInt_inj.mp (q.trans (by decide))))))
  · exact (Or.inr (Or.inr (Or.inr (Or.inl (Int32.toInt_inj.mp (q.trans (by decide)))))))
  · exact (Or.inr (Or.inr (Or.inr (Or.inr (Or.inl (Int32.toInt_inj.mp (q.trans (by decide))))))))
  · exact (Or.inr (Or.inr (Or.inr (Or.inr (Or.inr (Int32.toInt_inj.mp (q.trans (by decide))))))))
def own_Pin (Z : State) (h : Heap) (a_IN a_WORKFLOW_IN a_WORKFLOW_OUT a_DERIVED a_PARAM a_OUT : Addr) : Prop := Sta Z h "com/example/covell/covell/model/PortRole" "IN" "Lcom/example/covell/covell/model/PortRole;" (.ref a_IN) ∧ Sta Z h "com/example/covell/covell/model/PortRole" "WORKFLOW_IN" "Lcom/example/covell/covell/model/PortRole;" (.ref a_WORKFLOW_IN) ∧ Sta Z h "com/example/covell/covell/model/PortRole" "WORKFLOW_OUT" "Lcom/example/covell/covell/model/PortRole;" (.ref a_WORKFLOW_OUT) ∧ Sta Z h "com/example/covell/covell/model/PortRole" "DERIVED" "Lcom/example/covell/covell/model/PortRole;" (.ref a_DERIVED) ∧ Sta Z h "com/example/covell/covell/model/PortRole" "PARAM" "Lcom/example/covell/covell/model/PortRole;" (.ref a_PARAM) ∧ Sta Z h "com/example/covell/covell/model/PortRole" "OUT" "Lcom/example/covell/covell/model/PortRole;" (.ref a_OUT) ∧ Exa Z h a_IN "com/example/covell/covell/model/PortRole" ∧ Exa Z h a_WORKFLOW_IN "com/example/covell/covell/model/PortRole" ∧ Exa Z h a_WORKFLOW_OUT "com/example/covell/covell/model/PortRole" ∧ Exa Z h a_DERIVED "com/example/covell/covell/model/PortRole" ∧ Exa Z h a_PARAM "com/example/covell/covell/model/PortRole" ∧ Exa Z h a_OUT "com/example/covell/covell/model/PortRole" ∧ ¬ (a_IN = a_WORKFLOW_IN) ∧ ¬ (a_IN = a_WORKFLOW_OUT) ∧ ¬ (a_IN = a_DERIVED) ∧ ¬ (a_IN = a_PARAM) ∧ ¬ (a_IN = a_OUT) ∧ ¬ (a_WORKFLOW_IN = a_WORKFLOW_OUT) ∧ ¬ (a_WORKFLOW_IN = a_DERIVED) ∧ ¬ (a_WORKFLOW_IN = a_PARAM) ∧ ¬ (a_WORKFLOW_IN = a_OUT) ∧ ¬ (a_WORKFLOW_OUT = a_DERIVED) ∧ ¬ (a_WORKFLOW_OUT = a_PARAM) ∧ ¬ (a_WORKFLOW_OUT = a_OUT) ∧ ¬ (a_DERIVED = a_PARAM) ∧ ¬ (a_DERIVED = a_OUT) ∧ ¬ (a_PARAM = a_OUT)
theorem own_pn0 : plainName "com/example/covell/covell/model/PortRoleIsWorkflowPortPinLaw" = true := by first | (simp [plainName, overriddenIn]; done) | decide +kernel
theorem own_pn1 : plainName "com/example/covell/covell/model/PortRole" = true := by first | (simp [plainName, overriddenIn]; done) | decide +kernel
theorem own_pd0 : parseMethodDescriptor "(I)Lcom/example/covell/covell/model/PortRole;" = some ⟨[.int], (some (.object "com/example/covell/covell/model/PortRole"))⟩ := by decide +kernel
theorem own_pd1 : parseMethodDescriptor "()Z" = some ⟨[], (some .boolean)⟩ := by decide +kernel
theorem d1_0 : decode method_2_code 0 = .ok (.iload_n 0, 1) := by decide +kernel
theorem d1_1 : decode method_2_code 1 = .ok (.ifCond .ne 7, 3) := by decide +kernel
theorem d1_4 : decode method_2_code 4 = .ok (.getstatic 7, 3) := by decide +kernel
theorem d1_7 : decode method_2_code 7 = .ok (.areturn, 1) := by decide +kernel
theorem d1_8 : decode method_2_code 8 = .ok (.iload_n 0, 1) := by decide +kernel
theorem d1_9 : decode method_2_code 9 = .ok (.iconst 1, 1) := by decide +kernel
theorem d1_10 : decode method_2_code 10 = .ok (.if_icmp .ne 7, 3) := by decide +kernel
theorem d1_13 : decode method_2_code 13 = .ok (.getstatic 13, 3) := by decide +kernel
theorem d1_16 : decode method_2_code 16 = .ok (.areturn, 1) := by decide +kernel
theorem d1_17 : decode method_2_code 17 = .ok (.iload_n 0, 1) := by decide +kernel
theorem d1_18 : decode method_2_code 18 = .ok (.iconst 2, 1) := by decide +kernel
theorem d1_19 : decode method_2_code 19 = .ok (.if_icmp .ne 7, 3) := by decide +kernel
theorem d1_22 : decode method_2_code 22 = .ok (.getstatic 16, 3) := by decide +kernel
theorem d1_25 : decode method_2_code 25 = .ok (.areturn, 1) := by decide +kernel
theorem d1_26 : decode method_2_code 26 = .ok (.iload_n 0, 1) := by decide +kernel
theorem d1_27 : decode method_2_code 27 = .ok (.iconst 3, 1) := by decide +kernel
theorem d1_28 : decode method_2_code 28 = .ok (.if_icmp .ne 7, 3) := by decide +kernel
theorem d1_31 : decode method_2_code 31 = .ok (.getstatic 19, 3) := by decide +kernel
theorem d1_34 : decode method_2_code 34 = .ok (.areturn, 1) := by decide +kernel
theorem d1_35 : decode method_2_code 35 = .ok (.iload_n 0, 1) := by decide +kernel
theorem d1_36 : decode method_2_code 36 = .ok (.iconst 4, 1) := by decide +kernel
theorem d1_37 : decode method_2_code 37 = .ok (.if_icmp .ne 7, 3) := by decide +kernel
theorem d1_40 : decode method_2_code 40 = .ok (.getstatic 22, 3) := by decide +kernel
theorem d1_43 : decode method_2_code 43 = .ok (.areturn, 1) := by decide +kernel
theorem d1_44 : decode method_2_code 44 = .ok (.getstatic 25, 3) := by decide +kernel
theorem d1_47 : decode method_2_code 47 = .ok (.areturn, 1) := by decide +kernel
theorem d2_0 : decode prog_86_method_6_code 0 = .ok (.getstatic 13, 3) := by decide +kernel
theorem d2_3 : decode prog_86_method_6_code 3 = .ok (.aload_n 0, 1) := by decide +kernel
theorem d2_4 : decode prog_86_method_6_code 4 = .ok (.if_acmp .eq 17, 3) := by decide +kernel
theorem d2_7 : decode prog_86_method_6_code 7 = .ok (.getstatic 16, 3) := by decide +kernel
theorem d2_10 : decode prog_86_method_6_code 10 = .ok (.aload_n 0, 1) := by decide +kernel
theorem d2_11 : decode prog_86_method_6_code 11 = .ok (.if_acmp .eq 10, 3) := by decide +kernel
theorem d2_14 : decode prog_86_method_6_code 14 = .ok (.getstatic 19, 3) := by decide +kernel
theorem d2_17 : decode prog_86_method_6_code 17 = .ok (.aload_n 0, 1) := by decide +kernel
theorem d2_18 : decode prog_86_method_6_code 18 = .ok (.if_acmp .ne 7, 3) := by decide +kernel
theorem d2_21 : decode prog_86_method_6_code 21 = .ok (.iconst 1, 1) := by decide +kernel
theorem d2_22 : decode prog_86_method_6_code 22 = .ok (.goto 4, 3) := by decide +kernel
theorem d2_25 : decode prog_86_method_6_code 25 = .ok (.iconst 0, 1) := by decide +kernel
theorem d2_26 : decode prog_86_method_6_code 26 = .ok (.ireturn, 1) := by decide +kernel
set_option maxRecDepth 65536 in
set_option maxHeartbeats 40000000 in
theorem own_b1_0 (l : Launch) (Z : State) (a0 : Array Value) (hw : ∀ d ∈ tables_1, d.before a0 Z = true) (ws : List Jvm.Cond) (a_IN a_WORKFLOW_IN a_WORKFLOW_OUT a_DERIVED a_PARAM a_OUT : Addr)  (h0 : Heap) (n0 : Nat) (hp : own_Pin Z h0 a_IN a_WORKFLOW_IN a_WORKFLOW_OUT a_DERIVED a_PARAM a_OUT) :
    MetFree l (⟨"com/example/covell/covell/model/PortRoleIsWorkflowPortPinLaw", "pick", "(I)Lcom/example/covell/covell/model/PortRole;"⟩ : MethodName) (head1 (Jvm.Cond.code (⟨"com/example/covell/covell/model/PortRoleIsWorkflowPortPinLaw", "pick", "(I)Lcom/example/covell/covell/model/PortRole;"⟩ : MethodName) method_2_code 1 (some (.object "com/example/covell/covell/model/PortRole")) :: ws) ({ frames := 0, cells := 0, slots := 0, locals := 0 } : Room)) (fun a U => a = #[(.int (0 : Int32))] ∧ Z.Warmed39 U.vm ∧ U.heap = h0) (fun _ _ _ _ _ => True) (fun _ U o U' => ∃ v L, o = .returned v ∧ own_Q (.ref a_IN) h0 n0 v U'.heap L ∧ FrameEnd U o U' L ({ frames := 0, cells := 0, slots := 0, locals := 0 } : Room).cells ({ frames := 0, cells := 0, slots := 0, locals := 0 } : Room).slots) := by
  have hp' := hp
  obtain ⟨S_IN, S_WORKFLOW_IN, S_WORKFLOW_OUT, S_DERIVED, S_PARAM, S_OUT, E_IN, E_WORKFLOW_IN, E_WORKFLOW_OUT, E_DERIVED, E_PARAM, E_OUT, n_IN_WORKFLOW_IN, n_IN_WORKFLOW_OUT, n_IN_DERIVED, n_IN_PARAM, n_IN_OUT, n_WORKFLOW_IN_WORKFLOW_OUT, n_WORKFLOW_IN_DERIVED, n_WORKFLOW_IN_PARAM, n_WORKFLOW_IN_OUT, n_WORKFLOW_OUT_DERIVED, n_WORKFLOW_OUT_PARAM, n_WORKFLOW_OUT_OUT, n_DERIVED_PARAM, n_DERIVED_OUT, n_PARAM_OUT⟩ := hp'
  refine MetFree.of_bodySF (plainFor_of_name own_pn0) hisR ?_
  intro p e s m args below meth c s₁ Bd hml0 hP hK
  obtain ⟨rfl, hZ, hh⟩ := hP
  have hx := Bd.exec
  have hby := Bd.bytes
  have hml : c.maxLocals = 1 := hml0
  have hown : s.vm.findClass "com/example/covell/covell/model/PortRoleIsWorkflowPortPinLaw" = some m.cls := findClass_of_methodNamed Bd.named
  have X0 : Stand p l e ({ frames := 0, cells := 0, slots := 0, locals := 0 } : Room) s m #[(.int (0 : Int32))] below meth c s₁ [] 0 0 := Stand.of_body Bd
  have e0 : s₁.heap = h0 := by rw [← hh, Bd.state]; rfl
  have N0 := Fr.nil n0
  have pre0 : ∀ t, Steps p.tables e below (s₁.setTop (mkF m 0 #[.val (.int (0 : Int32))] [])) t → Steps p.tables e below (s₁.setTop (entryFrame m #[(.int (0 : Int32))] 1)) t := fun t k => castTop (by first | (simp [entryFrame, mkF, argsToLocals, Value.category]; done) | rfl) k
  obtain ⟨T1, X1, e1, st1⟩ := getS X0 hx hZ hown (host := "") (hw _ (List.mem_of_getElem? (i := 5) rfl)) Via.refl e0 S_IN (g := (mkF m 4 #[.val (.int (0 : Int32))] [])) rfl (hb hby d1_4)
  obtain ⟨fs, hr, hrun, hended, hW, hsame⟩ := X1.leave (v := some (.ref a_IN)) (fun h => by rw [Bd.returns] at h; cases h)
  refine ⟨_, _, pre0 _ ?_, hrun, hended, _, _, rfl, ?_, ⟨_, rfl⟩, hW, hsame.mono (by decide) (by decide)⟩
  · show Steps p.tables e below (s₁.setTop (mkF m 0 #[.val (.int (0 : Int32))] [])) _
    refine XS.iloadN X0.here hx rfl (hb hby d1_0) rfl ?_
    show Steps p.tables e below (s₁.setTop (mkF m 1 #[.val (.int (0 : Int32))] [(.int (0 : Int32))])) _
    refine XS.ifNo X0.here hx rfl (hb hby d1_1) rfl (by decide) ?_
    show Steps p.tables e below (s₁.setTop (mkF m 4 #[.val (.int (0 : Int32))] [])) _
    refine st1 _ ?_
    show Steps p.tables e below (T1.setTop (mkF m 7 #[.val (.int (0 : Int32))] [(.ref a_IN)])) _
    exact retOut X1 hx Bd.returns rfl (Or.inr (Or.inr (Or.inr (Or.inr ⟨rfl, rfl, rfl⟩)))) (hb hby d1_7) hr
  · show own_Q _ h0 n0 _ T1.heap _
    exact ⟨rfl, N0, e1⟩
set_option maxRecDepth 65536 in
set_option maxHeartbeats 40000000 in
theorem own_b2_0 (l : Launch) (Z : State) (a0 : Array Value) (hw : ∀ d ∈ tables_1, d.before a0 Z = true) (ws : List Jvm.Cond) (a_IN a_WORKFLOW_IN a_WORKFLOW_OUT a_DERIVED a_PARAM a_OUT : Addr)  (h0 : Heap) (n0 : Nat) (hp : own_Pin Z h0 a_IN a_WORKFLOW_IN a_WORKFLOW_OUT a_DERIVED a_PARAM a_OUT) :
    MetFree l (⟨"com/example/covell/covell/model/PortRole", "isWorkflowPort", "()Z"⟩ : MethodName) (head1 (Jvm.Cond.code (⟨"com/example/covell/covell/model/PortRole", "isWorkflowPort", "()Z"⟩ : MethodName) prog_86_method_6_code 1 (some .boolean) :: ws) ({ frames := 0, cells := 0, slots := 0, locals := 0 } : Room)) (fun a U => a = #[(.ref a_IN)] ∧ Z.Warmed39 U.vm ∧ U.heap = h0) (fun _ _ _ _ _ => True) (fun _ U o U' => ∃ v L, o = .returned v ∧ own_Q (.int (0 : Int32)) h0 n0 v U'.heap L ∧ FrameEnd U o U' L ({ frames := 0, cells := 0, slots := 0, locals := 0 } : Room).cells ({ frames := 0, cells := 0, slots := 0, locals := 0 } : Room).slots) := by
  have hp' := hp
  obtain ⟨S_IN, S_WORKFLOW_IN, S_WORKFLOW_OUT, S_DERIVED, S_PARAM, S_OUT, E_IN, E_WORKFLOW_IN, E_WORKFLOW_OUT, E_DERIVED, E_PARAM, E_OUT, n_IN_WORKFLOW_IN, n_IN_WORKFLOW_OUT, n_IN_DERIVED, n_IN_PARAM, n_IN_OUT, n_WORKFLOW_IN_WORKFLOW_OUT, n_WORKFLOW_IN_DERIVED, n_WORKFLOW_IN_PARAM, n_WORKFLOW_IN_OUT, n_WORKFLOW_OUT_DERIVED, n_WORKFLOW_OUT_PARAM, n_WORKFLOW_OUT_OUT, n_DERIVED_PARAM, n_DERIVED_OUT, n_PARAM_OUT⟩ := hp'
  refine MetFree.of_bodySF (plainFor_of_name own_pn1) hisR ?_
  intro p e s m args below meth c s₁ Bd hml0 hP hK
  obtain ⟨rfl, hZ, hh⟩ := hP
  have hx := Bd.exec
  have hby := Bd.bytes
  have hml : c.maxLocals = 1 := hml0
  have hown : s.vm.findClass "com/example/covell/covell/model/PortRole" = some m.cls := findClass_of_methodNamed Bd.named
  have X0 : Stand p l e ({ frames := 0, cells := 0, slots := 0, locals := 0 } : Room) s m #[(.ref a_IN)] below meth c s₁ [] 0 0 := Stand.of_body Bd
  have e0 : s₁.heap = h0 := by rw [← hh, Bd.state]; rfl
  have N0 := Fr.nil n0
  have pre0 : ∀ t, Steps p.tables e below (s₁.setTop (mkF m 0 #[.val (.ref a_IN)] [])) t → Steps p.tables e below (s₁.setTop (entryFrame m #[(.ref a_IN)] 1)) t := fun t k => castTop (by first | (simp [entryFrame, mkF, argsToLocals, Value.category]; done) | rfl) k
  obtain ⟨T1, X1, e1, st1⟩ := getS X0 hx hZ hown (host := "") (hw _ (List.mem_of_getElem? (i := 13) rfl)) Via.refl e0 S_WORKFLOW_IN (g := (mkF m 0 #[.val (.ref a_IN)] [])) rfl (hb hby d2_0)
  obtain ⟨T2, X2, e2, st2⟩ := getS X1 hx hZ hown (host := "") (hw _ (List.mem_of_getElem? (i := 15) rfl)) Via.refl e1 S_WORKFLOW_OUT (g := (mkF m 7 #[.val (.ref a_IN)] [])) rfl (hb hby d2_7)
  obtain ⟨T3, X3, e3, st3⟩ := getS X2 hx hZ hown (host := "") (hw _ (List.mem_of_getElem? (i := 17) rfl)) Via.refl e2 S_DERIVED (g := (mkF m 14 #[.val (.ref a_IN)] [])) rfl (hb hby d2_14)
  obtain ⟨fs, hr, hrun, hended, hW, hsame⟩ := X3.leave (v := some (.int (0 : Int32))) (fun h => by rw [Bd.returns] at h; cases h)
  refine ⟨_, _, pre0 _ ?_, hrun, hended, _, _, rfl, ?_, ⟨_, rfl⟩, hW, hsame.mono (by decide) (by decide)⟩
  · show Steps p.tables e below (s₁.setTop (mkF m 0 #[.val (.ref a_IN)] [])) _
    refine st1 _ ?_
    show Steps p.tables e below (T1.setTop (mkF m 3 #[.val (.ref a_IN)] [(.ref a_WORKFLOW_IN)])) _
    refine XS.aloadN X1.here hx rfl (hb hby d2_3) rfl rfl ?_
    show Steps p.tables e below (T1.setTop (mkF m 4 #[.val (.ref a_IN)] [(.ref a_IN), (.ref a_WORKFLOW_IN)])) _
    refine Jvm.RoadKit.acmp (g := (mkF m 4 #[.val (.ref a_IN)] [(.ref a_IN), (.ref a_WORKFLOW_IN)])) X1 hx rfl rfl rfl (pc0 := 4) (pc' := 7) (same := false) rfl (hb hby d2_4) rfl (decide_eq_false fun q => n_IN_WORKFLOW_IN (Value.ref.inj q).symm) (by decide) (by decide) ?_
    show Steps p.tables e below (T1.setTop (mkF m 7 #[.val (.ref a_IN)] [])) _
    refine st2 _ ?_
    show Steps p.tables e below (T2.setTop (mkF m 10 #[.val (.ref a_IN)] [(.ref a_WORKFLOW_OUT)])) _
    refine XS.aloadN X2.here hx rfl (hb hby d2_10) rfl rfl ?_
    show Steps p.tables e below (T2.setTop (mkF m 11 #[.val (.ref a_IN)] [(.ref a_IN), (.ref a_WORKFLOW_OUT)])) _
    refine Jvm.RoadKit.acmp (g := (mkF m 11 #[.val (.ref a_IN)] [(.ref a_IN), (.ref a_WORKFLOW_OUT)])) X2 hx rfl rfl rfl (pc0 := 11) (pc' := 14) (same := false) rfl (hb hby d2_11) rfl (decide_eq_false fun q => n_IN_WORKFLOW_OUT (Value.ref.inj q).symm) (by decide) (by decide) ?_
    show Steps p.tables e below (T2.setTop (mkF m 14 #[.val (.ref a_IN)] [])) _
    refine st3 _ ?_
    show Steps p.tables e below (T3.setTop (mkF m 17 #[.val (.ref a_IN)] [(.ref a_DERIVED)])) _
    refine XS.aloadN X3.here hx rfl (hb hby d2_17) rfl rfl ?_
    show Steps p.tables e below (T3.setTop (mkF m 18 #[.val (.ref a_IN)] [(.ref a_IN), (.ref a_DERIVED)])) _
    refine Jvm.RoadKit.acmp (g := (mkF m 18 #[.val (.ref a_IN)] [(.ref a_IN), (.ref a_DERIVED)])) X3 hx rfl rfl rfl (pc0 := 18) (pc' := 25) (same := false) rfl (hb hby d2_18) rfl (decide_eq_false fun q => n_IN_DERIVED (Value.ref.inj q).symm) (by decide) (by decide) ?_
    show Steps p.tables e below (T3.setTop (mkF m 25 #[.val (.ref a_IN)] [])) _
    refine XS.iconst X3.here hx rfl (hb hby d2_25) ?_
    show Steps p.tables e below (T3.setTop (mkF m 26 #[.val (.ref a_IN)] [(.int (0 : Int32))])) _
    exact retN X3 hx (t := .boolean) Bd.returns (by simp) (hb hby d2_26) hr
  · show own_Q _ h0 n0 _ T3.heap _
    exact ⟨rfl, N0, e3⟩
set_option maxRecDepth 65536 in
set_option maxHeartbeats 40000000 in
theorem own_b1_1 (l : Launch) (Z : State) (a0 : Array Value) (hw : ∀ d ∈ tables_1, d.before a0 Z = true) (ws : List Jvm.Cond) (a_IN a_WORKFLOW_IN a_WORKFLOW_OUT a_DERIVED a_PARAM a_OUT : Addr)  (h0 : Heap) (n0 : Nat) (hp : own_Pin Z h0 a_IN a_WORKFLOW_IN a_WORKFLOW_OUT a_DERIVED a_PARAM a_OUT) :
    MetFree l (⟨"com/example/covell/covell/model/PortRoleIsWorkflowPortPinLaw", "pick", "(I)Lcom/example/covell/covell/model/PortRole;"⟩ : MethodName) (head1 (Jvm.Cond.code (⟨"com/example/covell/covell/model/PortRoleIsWorkflowPortPinLaw", "pick", "(I)Lcom/example/covell/covell/model/PortRole;"⟩ : MethodName) method_2_code 1 (some (.object "com/example/covell/covell/model/PortRole")) :: ws) ({ frames := 0, cells := 0, slots := 0, locals := 0 } : Room)) (fun a U => a = #[(.int (1 : Int32))] ∧ Z.Warmed39 U.vm ∧ U.heap = h0) (fun _ _ _ _ _ => True) (fun _ U o U' => ∃ v L, o = .returned v ∧ own_Q (.ref a_PARAM) h0 n0 v U'.heap L ∧ FrameEnd U o U' L ({ frames := 0, cells := 0, slots := 0, locals := 0 } : Room).cells ({ frames := 0, cells := 0, slots := 0, locals := 0 } : Room).slots) := by
  have hp' := hp
  obtain ⟨S_IN, S_WORKFLOW_IN, S_WORKFLOW_OUT, S_DERIVED, S_PARAM, S_OUT, E_IN, E_WORKFLOW_IN, E_WORKFLOW_OUT, E_DERIVED, E_PARAM, E_OUT, n_IN_WORKFLOW_IN, n_IN_WORKFLOW_OUT, n_IN_DERIVED, n_IN_PARAM, n_IN_OUT, n_WORKFLOW_IN_WORKFLOW_OUT, n_WORKFLOW_IN_DERIVED, n_WORKFLOW_IN_PARAM, n_WORKFLOW_IN_OUT, n_WORKFLOW_OUT_DERIVED, n_WORKFLOW_OUT_PARAM, n_WORKFLOW_OUT_OUT, n_DERIVED_PARAM, n_DERIVED_OUT, n_PARAM_OUT⟩ := hp'
  refine MetFree.of_bodySF (plainFor_of_name own_pn0) hisR ?_
  intro p e s m args below meth c s₁ Bd hml0 hP hK
  obtain ⟨rfl, hZ, hh⟩ := hP
  have hx := Bd.exec
  have hby := Bd.bytes
  have hml : c.maxLocals = 1 := hml0
  have hown : s.vm.findClass "com/example/covell/covell/model/PortRoleIsWorkflowPortPinLaw" = some m.cls := findClass_of_methodNamed Bd.named
  have X0 : Stand p l e ({ frames := 0, cells := 0, slots := 0, locals := 0 } : Room) s m #[(.int (1 : Int32))] below meth c s₁ [] 0 0 := Stand.of_body Bd
  have e0 : s₁.heap = h0 := by rw [← hh, Bd.state]; rfl
  have N0 := Fr.nil n0
  have pre0 : ∀ t, Steps p.tables e below (s₁.setTop (mkF m 0 #[.val (.int (1 : Int32))] [])) t → Steps p.tables e below (s₁.setTop (entryFrame m #[(.int (1 : Int32))] 1)) t := fun t k => castTop (by first | (simp [entryFrame, mkF, argsToLocals, Value.category]; done) | rfl) k
  obtain ⟨T1, X1, e1, st1⟩ := getS X0 hx hZ hown (host := "") (hw _ (List.mem_of_getElem? (i := 20) rfl)) Via.refl e0 S_PARAM (g := (mkF m 13 #[.val (.int (1 : Int32))] [])) rfl (hb hby d1_13)
  obtain ⟨fs, hr, hrun, hended, hW, hsame⟩ := X1.leave (v := some (.ref a_PARAM)) (fun h => by rw [Bd.returns] at h; cases h)
  refine ⟨_, _, pre0 _ ?_, hrun, hended, _, _, rfl, ?_, ⟨_, rfl⟩, hW, hsame.mono (by decide) (by decide)⟩
  · show Steps p.tables e below (s₁.setTop (mkF m 0 #[.val (.int (1 : Int32))] [])) _
    refine XS.iloadN X0.here hx rfl (hb hby d1_0) rfl ?_
    show Steps p.tables e below (s₁.setTop (mkF m 1 #[.val (.int (1 : Int32))] [(.int (1 : Int32))])) _
    refine XS.ifYes X0.here hx rfl (pc0 := 1) (pc' := 8) rfl (hb hby d1_1) rfl (by decide) (by decide) (by decide) ?_
    show Steps p.tables e below (s₁.setTop (mkF m 8 #[.val (.int (1 : Int32))] [])) _
    refine XS.iloadN X0.here hx rfl (hb hby d1_8) rfl ?_
    show Steps p.tables e below (s₁.setTop (mkF m 9 #[.val (.int (1 : Int32))] [(.int (1 : Int32))])) _
    refine XS.iconst X0.here hx rfl (hb hby d1_9) ?_
    show Steps p.tables e below (s₁.setTop (mkF m 10 #[.val (.int (1 : Int32))] [(.int (1 : Int32)), (.int (1 : Int32))])) _
    refine XS.icmpNo X0.here hx rfl (hb hby d1_10) rfl (by decide) ?_
    show Steps p.tables e below (s₁.setTop (mkF m 13 #[.val (.int (1 : Int32))] [])) _
    refine st1 _ ?_
    show Steps p.tables e below (T1.setTop (mkF m 16 #[.val (.int (1 : Int32))] [(.ref a_PARAM)])) _
    exact retOut X1 hx Bd.returns rfl (Or.inr (Or.inr (Or.inr (Or.inr ⟨rfl, rfl, rfl⟩)))) (hb hby d1_16) hr
  · show own_Q _ h0 n0 _ T1.heap _
    exact ⟨rfl, N0, e1⟩
set_option maxRecDepth 65536 in
set_option maxHeartbeats 40000000 in
theorem own_b2_1 (l : Launch) (Z : State) (a0 : Array Value) (hw : ∀ d ∈ tables_1, d.before a0 Z = true) (ws : List Jvm.Cond) (a_IN a_WORKFLOW_IN a_WORKFLOW_OUT a_DERIVED a_PARAM a_OUT : Addr)  (h0 : Heap) (n0 : Nat) (hp : own_Pin Z h0 a_IN a_WORKFLOW_IN a_WORKFLOW_OUT a_DERIVED a_PARAM a_OUT) :
    MetFree l (⟨"com/example/covell/covell/model/PortRole", "isWorkflowPort", "()Z"⟩ : MethodName) (head1 (Jvm.Cond.code (⟨"com/example/covell/covell/model/PortRole", "isWorkflowPort", "()Z"⟩ : MethodName) prog_86_method_6_code 1 (some .boolean) :: ws) ({ frames := 0, cells := 0, slots := 0, locals := 0 } : Room)) (fun a U => a = #[(.ref a_PARAM)] ∧ Z.Warmed39 U.vm ∧ U.heap = h0) (fun _ _ _ _ _ => True) (fun _ U o U' => ∃ v L, o = .returned v ∧ own_Q (.int (0 : Int32)) h0 n0 v U'.heap L ∧ FrameEnd U o U' L ({ frames := 0, cells := 0, slots := 0, locals := 0 } : Room).cells ({ frames := 0, cells := 0, slots := 0, locals := 0 } : Room).slots) := by
  have hp' := hp
  obtain ⟨S_IN, S_WORKFLOW_IN, S_WORKFLOW_OUT, S_DERIVED, S_PARAM, S_OUT, E_IN, E_WORKFLOW_IN, E_WORKFLOW_OUT, E_DERIVED, E_PARAM, E_OUT, n_IN_WORKFLOW_IN, n_IN_WORKFLOW_OUT, n_IN_DERIVED, n_IN_PARAM, n_IN_OUT, n_WORKFLOW_IN_WORKFLOW_OUT, n_WORKFLOW_IN_DERIVED, n_WORKFLOW_IN_PARAM, n_WORKFLOW_IN_OUT, n_WORKFLOW_OUT_DERIVED, n_WORKFLOW_OUT_PARAM, n_WORKFLOW_OUT_OUT, n_DERIVED_PARAM, n_DERIVED_OUT, n_PARAM_OUT⟩ := hp'
  refine MetFree.of_bodySF (plainFor_of_name own_pn1) hisR ?_
  intro p e s m args below meth c s₁ Bd hml0 hP hK
  obtain ⟨rfl, hZ, hh⟩ := hP
  have hx := Bd.exec
  have hby := Bd.bytes
  have hml : c.maxLocals = 1 := hml0
  have hown : s.vm.findClass "com/example/covell/covell/model/PortRole" = some m.cls := findClass_of_methodNamed Bd.named
  have X0 : Stand p l e ({ frames := 0, cells := 0, slots := 0, locals := 0 } : Room) s m #[(.ref a_PARAM)] below meth c s₁ [] 0 0 := Stand.of_body Bd
  have e0 : s₁.heap = h0 := by rw [← hh, Bd.state]; rfl
  have N0 := Fr.nil n0
  have pre0 : ∀ t, Steps p.tables e below (s₁.setTop (mkF m 0 #[.val (.ref a_PARAM)] [])) t → Steps p.tables e below (s₁.setTop (entryFrame m #[(.ref a_PARAM)] 1)) t := fun t k => castTop (by first | (simp [entryFrame, mkF, argsToLocals, Value.category]; done) | rfl) k
  obtain ⟨T1, X1, e1, st1⟩ := getS X0 hx hZ hown (host := "") (hw _ (List.mem_of_getElem? (i := 13) rfl)) Via.refl e0 S_WORKFLOW_IN (g := (mkF m 0 #[.val (.ref a_PARAM)] [])) rfl (hb hby d2_0)
  obtain ⟨T2, X2, e2, st2⟩ := getS X1 hx hZ hown (host := "") (hw _ (List.mem_of_getElem? (i := 15) rfl)) Via.refl e1 S_WORKFLOW_OUT (g := (mkF m 7 #[.val (.ref a_PARAM)] [])) rfl (hb hby d2_7)
  obtain ⟨T3, X3, e3, st3⟩ := getS X2 hx hZ hown (host := "") (hw _ (List.mem_of_getElem? (i := 17) rfl)) Via.refl e2 S_DERIVED (g := (mkF m 14 #[.val (.ref a_PARAM)] [])) rfl (hb hby d2_14)
  obtain ⟨fs, hr, hrun, hended, hW, hsame⟩ := X3.leave (v := some (.int (0 : Int32))) (fun h => by rw [Bd.returns] at h; cases h)
  refine ⟨_, _, pre0 _ ?_, hrun, hended, _, _, rfl, ?_, ⟨_, rfl⟩, hW, hsame.mono (by decide) (by decide)⟩
  · show Steps p.tables e below (s₁.setTop (mkF m 0 #[.val (.ref a_PARAM)] [])) _
    refine st1 _ ?_
    show Steps p.tables e below (T1.setTop (mkF m 3 #[.val (.ref a_PARAM)] [(.ref a_WORKFLOW_IN)])) _
    refine XS.aloadN X1.here hx rfl (hb hby d2_3) rfl rfl ?_
    show Steps p.tables e below (T1.setTop (mkF m 4 #[.val (.ref a_PARAM)] [(.ref a_PARAM), (.ref a_WORKFLOW_IN)])) _
    refine Jvm.RoadKit.acmp (g := (mkF m 4 #[.val (.ref a_PARAM)] [(.ref a_PARAM), (.ref a_WORKFLOW_IN)])) X1 hx rfl rfl rfl (pc0 := 4) (pc' := 7) (same := false) rfl (hb hby d2_4) rfl (decide_eq_false fun q => n_WORKFLOW_IN_PARAM (Value.ref.inj q)) (by decide) (by decide) ?_
    show Steps p.tables e below (T1.setTop (mkF m 7 #[.val (.ref a_PARAM)] [])) _
    refine st2 _ ?_
    show Steps p.tables e below (T2.setTop (mkF m 10 #[.val (.ref a_PARAM)] [(.ref a_WORKFLOW_OUT)])) _
    refine XS.aloadN X2.here hx rfl (hb hby d2_10) rfl rfl ?_
    show Steps p.tables e below (T2.setTop (mkF m 11 #[.val (.ref a_PARAM)] [(.ref a_PARAM), (.ref a_WORKFLOW_OUT)])) _
    refine Jvm.RoadKit.acmp (g := (mkF m 11 #[.val (.ref a_PARAM)] [(.ref a_PARAM), (.ref a_WORKFLOW_OUT)])) X2 hx rfl rfl rfl (pc0 := 11) (pc' := 14) (same := false) rfl (hb hby d2_11) rfl (decide_eq_false fun q => n_WORKFLOW_OUT_PARAM (Value.ref.inj q)) (by decide) (by decide) ?_
    show Steps p.tables e below (T2.setTop (mkF m 14 #[.val (.ref a_PARAM)] [])) _
    refine st3 _ ?_
    show Steps p.tables e below (T3.setTop (mkF m 17 #[.val (.ref a_PARAM)] [(.ref a_DERIVED)])) _
    refine XS.aloadN X3.here hx rfl (hb hby d2_17) rfl rfl ?_
    show Steps p.tables e below (T3.setTop (mkF m 18 #[.val (.ref a_PARAM)] [(.ref a_PARAM), (.ref a_DERIVED)])) _
    refine Jvm.RoadKit.acmp (g := (mkF m 18 #[.val (.ref a_PARAM)] [(.ref a_PARAM), (.ref a_DERIVED)])) X3 hx rfl rfl rfl (pc0 := 18) (pc' := 25) (same := false) rfl (hb hby d2_18) rfl (decide_eq_false fun q => n_DERIVED_PARAM (Value.ref.inj q)) (by decide) (by decide) ?_
    show Steps p.tables e below (T3.setTop (mkF m 25 #[.val (.ref a_PARAM)] [])) _
    refine XS.iconst X3.here hx rfl (hb hby d2_25) ?_
    show Steps p.tables e below (T3.setTop (mkF m 26 #[.val (.ref a_PARAM)] [(.int (0 : Int32))])) _
    exact retN X3 hx (t := .boolean) Bd.returns (by simp) (hb hby d2_26) hr
  · show own_Q _ h0 n0 _ T3.heap _
    exact ⟨rfl, N0, e3⟩
set_option maxRecDepth 65536 in
set_option maxHeartbeats 40000000 in
theorem own_b1_2 (l : Launch) (Z : State) (a0 : Array Value) (hw : ∀ d ∈ tables_1, d.before a0 Z = true) (ws : List Jvm.Cond) (a_IN a_WORKFLOW_IN a_WORKFLOW_OUT a_DERIVED a_PARAM a_OUT : Addr)  (h0 : Heap) (n0 : Nat) (hp : own_Pin Z h0 a_IN a_WORKFLOW_IN a_WORKFLOW_OUT a_DERIVED a_PARAM a_OUT) :
    MetFree l (⟨"com/example/covell/covell/model/PortRoleIsWorkflowPortPinLaw", "pick", "(I)Lcom/example/covell/covell/model/PortRole;"⟩ : MethodName) (head1 (Jvm.Cond.code (⟨"com/example/covell/covell/model/PortRoleIsWorkflowPortPinLaw", "pick", "(I)Lcom/example/covell/covell/model/PortRole;"⟩ : MethodName) method_2_code 1 (some (.object "com/example/covell/covell/model/PortRole")) :: ws) ({ frames := 0, cells := 0, slots := 0, locals := 0 } : Room)) (fun a U => a = #[(.int (2 : Int32))] ∧ Z.Warmed39 U.vm ∧ U.heap = h0) (fun _ _ _ _ _ => True) (fun _ U o U' => ∃ v L, o = .returned v ∧ own_Q (.ref a_OUT) h0 n0 v U'.heap L ∧ FrameEnd U o U' L ({ frames := 0, cells := 0, slots := 0, locals := 0 } : Room).cells ({ frames := 0, cells := 0, slots := 0, locals := 0 } : Room).slots) := by
  have hp' := hp
  obtain ⟨S_IN, S_WORKFLOW_IN, S_WORKFLOW_OUT, S_DERIVED, S_PARAM, S_OUT, E_IN, E_WORKFLOW_IN, E_WORKFLOW_OUT, E_DERIVED, E_PARAM, E_OUT, n_IN_WORKFLOW_IN, n_IN_WORKFLOW_OUT, n_IN_DERIVED, n_IN_PARAM, n_IN_OUT, n_WORKFLOW_IN_WORKFLOW_OUT, n_WORKFLOW_IN_DERIVED, n_WORKFLOW_IN_PARAM, n_WORKFLOW_IN_OUT, n_WORKFLOW_OUT_DERIVED, n_WORKFLOW_OUT_PARAM, n_WORKFLOW_OUT_OUT, n_DERIVED_PARAM, n_DERIVED_OUT, n_PARAM_OUT⟩ := hp'
  refine MetFree.of_bodySF (plainFor_of_name own_pn0) hisR ?_
  intro p e s m args below meth c s₁ Bd hml0 hP hK
  obtain ⟨rfl, hZ, hh⟩ := hP
  have hx := Bd.exec
  have hby := Bd.bytes
  have hml : c.maxLocals = 1 := hml0
  have hown : s.vm.findClass "com/example/covell/covell/model/PortRoleIsWorkflowPortPinLaw" = some m.cls := findClass_of_methodNamed Bd.named
  have X0 : Stand p l e ({ frames := 0, cells := 0, slots := 0, locals := 0 } : Room) s m #[(.int (2 : Int32))] below meth c s₁ [] 0 0 := Stand.of_body Bd
  have e0 : s₁.heap = h0 := by rw [← hh, Bd.state]; rfl
  have N0 := Fr.nil n0
  have pre0 : ∀ t, Steps p.tables e below (s₁.setTop (mkF m 0 #[.val (.int (2 : Int32))] [])) t → Steps p.tables e below (s₁.setTop (entryFrame m #[(.int (2 : Int32))] 1)) t := fun t k => castTop (by first | (simp [entryFrame, mkF, argsToLocals, Value.category]; done) | rfl) k
  obtain ⟨T1, X1, e1, st1⟩ := getS X0 hx hZ hown (host := "") (hw _ (List.mem_of_getElem? (i := 22) rfl)) Via.refl e0 S_OUT (g := (mkF m 22 #[.val (.int (2 : Int32))] [])) rfl (hb hby d1_22)
  obtain ⟨fs, hr, hrun, hended, hW, hsame⟩ := X1.leave (v := some (.ref a_OUT)) (fun h => by rw [Bd.returns] at h; cases h)
  refine ⟨_, _, pre0 _ ?_, hrun, hended, _, _, rfl, ?_, ⟨_, rfl⟩, hW, hsame.mono (by decide) (by decide)⟩
  · show Steps p.tables e below (s₁.setTop (mkF m 0 #[.val (.int (2 : Int32))] [])) _
    refine XS.iloadN X0.here hx rfl (hb hby d1_0) rfl ?_
    show Steps p.tables e below (s₁.setTop (mkF m 1 #[.val (.int (2 : Int32))] [(.int (2 : Int32))])) _
    refine XS.ifYes X0.here hx rfl (pc0 := 1) (pc' := 8) rfl (hb hby d1_1) rfl (by decide) (by decide) (by decide) ?_
    show Steps p.tables e below (s₁.setTop (mkF m 8 #[.val (.int (2 : Int32))] [])) _
    refine XS.iloadN X0.here hx rfl (hb hby d1_8) rfl ?_
    show Steps p.tables e below (s₁.setTop (mkF m 9 #[.val (.int (2 : Int32))] [(.int (2 : Int32))])) _
    refine XS.iconst X0.here hx rfl (hb hby d1_9) ?_
    show Steps p.tables e below (s₁.setTop (mkF m 10 #[.val (.int (2 : Int32))] [(.int (1 : Int32)), (.int (2 : Int32))])) _
    refine XS.icmpYes X0.here hx rfl (pc0 := 10) (pc' := 17) rfl (hb hby d1_10) rfl (by decide) (by decide) (by decide) ?_
    show Steps p.tables e below (s₁.setTop (mkF m 17 #[.val (.int (2 : Int32))] [])) _
    refine XS.iloadN X0.here hx rfl (hb hby d1_17) rfl ?_
    show Steps p.tables e below (s₁.setTop (mkF m 18 #[.val (.int (2 : Int32))] [(.int (2 : Int32))])) _
    refine XS.iconst X0.here hx rfl (hb hby d1_18) ?_
    show Steps p.tables e below (s₁.setTop (mkF m 19 #[.val (.int (2 : Int32))] [(.int (2 : Int32)), (.int (2 : Int32))])) _
    refine XS.icmpNo X0.here hx rfl (hb hby d1_19) rfl (by decide) ?_
    show Steps p.tables e below (s₁.setTop (mkF m 22 #[.val (.int (2 : Int32))] [])) _
    refine st1 _ ?_
    show Steps p.tables e below (T1.setTop (mkF m 25 #[.val (.int (2 : Int32))] [(.ref a_OUT)])) _
    exact retOut X1 hx Bd.returns rfl (Or.inr (Or.inr (Or.inr (Or.inr ⟨rfl, rfl, rfl⟩)))) (hb hby d1_25) hr
  · show own_Q _ h0 n0 _ T1.heap _
    exact ⟨rfl, N0, e1⟩
set_option maxRecDepth 65536 in
set_option maxHeartbeats 40000000 in
theorem own_b2_2 (l : Launch) (Z : State) (a0 : Array Value) (hw : ∀ d ∈ tables_1, d.before a0 Z = true) (ws : List Jvm.Cond) (a_IN a_WORKFLOW_IN a_WORKFLOW_OUT a_DERIVED a_PARAM a_OUT : Addr)  (h0 : Heap) (n0 : Nat) (hp : own_Pin Z h0 a_IN a_WORKFLOW_IN a_WORKFLOW_OUT a_DERIVED a_PARAM a_OUT) :
    MetFree l (⟨"com/example/covell/covell/model/PortRole", "isWorkflowPort", "()Z"⟩ : MethodName) (head1 (Jvm.Cond.code (⟨"com/example/covell/covell/model/PortRole", "isWorkflowPort", "()Z"⟩ : MethodName) prog_86_method_6_code 1 (some .boolean) :: ws) ({ frames := 0, cells := 0, slots := 0, locals := 0 } : Room)) (fun a U => a = #[(.ref a_OUT)] ∧ Z.Warmed39 U.vm ∧ U.heap = h0) (fun _ _ _ _ _ => True) (fun _ U o U' => ∃ v L, o = .returned v ∧ own_Q (.int (0 : Int32)) h0 n0 v U'.heap L ∧ FrameEnd U o U' L ({ frames := 0, cells := 0, slots := 0, locals := 0 } : Room).cells ({ frames := 0, cells := 0, slots := 0, locals := 0 } : Room).slots) := by
  have hp' := hp
  obtain ⟨S_IN, S_WORKFLOW_IN, S_WORKFLOW_OUT, S_DERIVED, S_PARAM, S_OUT, E_IN, E_WORKFLOW_IN, E_WORKFLOW_OUT, E_DERIVED, E_PARAM, E_OUT, n_IN_WORKFLOW_IN, n_IN_WORKFLOW_OUT, n_IN_DERIVED, n_IN_PARAM, n_IN_OUT, n_WORKFLOW_IN_WORKFLOW_OUT, n_WORKFLOW_IN_DERIVED, n_WORKFLOW_IN_PARAM, n_WORKFLOW_IN_OUT, n_WORKFLOW_OUT_DERIVED, n_WORKFLOW_OUT_PARAM, n_WORKFLOW_OUT_OUT, n_DERIVED_PARAM, n_DERIVED_OUT, n_PARAM_OUT⟩ := hp'
  refine MetFree.of_bodySF (plainFor_of_name own_pn1) hisR ?_
  intro p e s m args below meth c s₁ Bd hml0 hP hK
  obtain ⟨rfl, hZ, hh⟩ := hP
  have hx := Bd.exec
  have hby := Bd.bytes
  have hml : c.maxLocals = 1 := hml0
  have hown : s.vm.findClass "com/example/covell/covell/model/PortRole" = some m.cls := findClass_of_methodNamed Bd.named
  have X0 : Stand p l e ({ frames := 0, cells := 0, slots := 0, locals := 0 } : Room) s m #[(.ref a_OUT)] below meth c s₁ [] 0 0 := Stand.of_body Bd
  have e0 : s₁.heap = h0 := by rw [← hh, Bd.state]; rfl
  have N0 := Fr.nil n0
  have pre0 : ∀ t, Steps p.tables e below (s₁.setTop (mkF m 0 #[.val (.ref a_OUT)] [])) t → Steps p.tables e below (s₁.setTop (entryFrame m #[(.ref a_OUT)] 1)) t := fun t k => castTop (by first | (simp [entryFrame, mkF, argsToLocals, Value.category]; done) | rfl) k
  obtain ⟨T1, X1, e1, st1⟩ := getS X0 hx hZ hown (host := "") (hw _ (List.mem_of_getElem? (i := 13) rfl)) Via.refl e0 S_WORKFLOW_IN (g := (mkF m 0 #[.val (.ref a_OUT)] [])) rfl (hb hby d2_0)
  obtain ⟨T2, X2, e2, st2⟩ := getS X1 hx hZ hown (host := "") (hw _ (List.mem_of_getElem? (i := 15) rfl)) Via.refl e1 S_WORKFLOW_OUT (g := (mkF m 7 #[.val (.ref a_OUT)] [])) rfl (hb hby d2_7)
  obtain ⟨T3, X3, e3, st3⟩ := getS X2 hx hZ hown (host := "") (hw _ (List.mem_of_getElem? (i := 17) rfl)) Via.refl e2 S_DERIVED (g := (mkF m 14 #[.val (.ref a_OUT)] [])) rfl (hb hby d2_14)
  obtain ⟨fs, hr, hrun, hended, hW, hsame⟩ := X3.leave (v := some (.int (0 : Int32))) (fun h => by rw [Bd.returns] at h; cases h)
  refine ⟨_, _, pre0 _ ?_, hrun, hended, _, _, rfl, ?_, ⟨_, rfl⟩, hW, hsame.mono (by decide) (by decide)⟩
  · show Steps p.tables e below (s₁.setTop (mkF m 0 #[.val (.ref a_OUT)] [])) _
    refine st1 _ ?_
    show Steps p.tables e below (T1.setTop (mkF m 3 #[.val (.ref a_OUT)] [(.ref a_WORKFLOW_IN)])) _
    refine XS.aloadN X1.here hx rfl (hb hby d2_3) rfl rfl ?_
    show Steps p.tables e below (T1.setTop (mkF m 4 #[.val (.ref a_OUT)] [(.ref a_OUT), (.ref a_WORKFLOW_IN)])) _
    refine Jvm.RoadKit.acmp (g := (mkF m 4 #[.val (.ref a_OUT)] [(.ref a_OUT), (.ref a_WORKFLOW_IN)])) X1 hx rfl rfl rfl (pc0 := 4) (pc' := 7) (same := false) rfl (hb hby d2_4) rfl (decide_eq_false fun q => n_WORKFLOW_IN_OUT (Value.ref.inj q)) (by decide) (by decide) ?_
    show Steps p.tables e below (T1.setTop (mkF m 7 #[.val (.ref a_OUT)] [])) _
    refine st2 _ ?_
    show Steps p.tables e below (T2.setTop (mkF m 10 #[.val (.ref a_OUT)] [(.ref a_WORKFLOW_OUT)])) _
    refine XS.aloadN X2.here hx rfl (hb hby d2_10) rfl rfl ?_
    show Steps p.tables e below (T2.setTop (mkF m 11 #[.val (.ref a_OUT)] [(.ref a_OUT), (.ref a_WORKFLOW_OUT)])) _
    refine Jvm.RoadKit.acmp (g := (mkF m 11 #[.val (.ref a_OUT)] [(.ref a_OUT), (.ref a_WORKFLOW_OUT)])) X2 hx rfl rfl rfl (pc0 := 11) (pc' := 14) (same := false) rfl (hb hby d2_11) rfl (decide_eq_false fun q => n_WORKFLOW_OUT_OUT (Value.ref.inj q)) (by decide) (by decide) ?_
    show Steps p.tables e below (T2.setTop (mkF m 14 #[.val (.ref a_OUT)] [])) _
    refine st3 _ ?_
    show Steps p.tables e below (T3.setTop (mkF m 17 #[.val (.ref a_OUT)] [(.ref a_DERIVED)])) _
    refine XS.aloadN X3.here hx rfl (hb hby d2_17) rfl rfl ?_
    show Steps p.tables e below (T3.setTop (mkF m 18 #[.val (.ref a_OUT)] [(.ref a_OUT), (.ref a_DERIVED)])) _
    refine Jvm.RoadKit.acmp (g := (mkF m 18 #[.val (.ref a_OUT)] [(.ref a_OUT), (.ref a_DERIVED)])) X3 hx rfl rfl rfl (pc0 := 18) (pc' := 25) (same := false) rfl (hb hby d2_18) rfl (decide_eq_false fun q => n_DERIVED_OUT (Value.ref.inj q)) (by decide) (by decide) ?_
    show Steps p.tables e below (T3.setTop (mkF m 25 #[.val (.ref a_OUT)] [])) _
    refine XS.iconst X3.here hx rfl (hb hby d2_25) ?_
    show Steps p.tables e below (T3.setTop (mkF m 26 #[.val (.ref a_OUT)] [(.int (0 : Int32))])) _
    exact retN X3 hx (t := .boolean) Bd.returns (by simp) (hb hby d2_26) hr
  · show own_Q _ h0 n0 _ T3.heap _
    exact ⟨rfl, N0, e3⟩
set_option maxRecDepth 65536 in
set_option maxHeartbeats 40000000 in
theorem own_b1_3 (l : Launch) (Z : State) (a0 : Array Value) (hw : ∀ d ∈ tables_1, d.before a0 Z = true) (ws : List Jvm.Cond) (a_IN a_WORKFLOW_IN a_WORKFLOW_OUT a_DERIVED a_PARAM a_OUT : Addr)  (h0 : Heap) (n0 : Nat) (hp : own_Pin Z h0 a_IN a_WORKFLOW_IN a_WORKFLOW_OUT a_DERIVED a_PARAM a_OUT) :
    MetFree l (⟨"com/example/covell/covell/model/PortRoleIsWorkflowPortPinLaw", "pick", "(I)Lcom/example/covell/covell/model/PortRole;"⟩ : MethodName) (head1 (Jvm.Cond.code (⟨"com/example/covell/covell/model/PortRoleIsWorkflowPortPinLaw", "pick", "(I)Lcom/example/covell/covell/model/PortRole;"⟩ : MethodName) method_2_code 1 (some (.object "com/example/covell/covell/model/PortRole")) :: ws) ({ frames := 0, cells := 0, slots := 0, locals := 0 } : Room)) (fun a U => a = #[(.int (3 : Int32))] ∧ Z.Warmed39 U.vm ∧ U.heap = h0) (fun _ _ _ _ _ => True) (fun _ U o U' => ∃ v L, o = .returned v ∧ own_Q (.ref a_WORKFLOW_IN) h0 n0 v U'.heap L ∧ FrameEnd U o U' L ({ frames := 0, cells := 0, slots := 0, locals := 0 } : Room).cells ({ frames := 0, cells := 0, slots := 0, locals := 0 } : Room).slots) := by
  have hp' := hp
  obtain ⟨S_IN, S_WORKFLOW_IN, S_WORKFLOW_OUT, S_DERIVED, S_PARAM, S_OUT, E_IN, E_WORKFLOW_IN, E_WORKFLOW_OUT, E_DERIVED, E_PARAM, E_OUT, n_IN_WORKFLOW_IN, n_IN_WORKFLOW_OUT, n_IN_DERIVED, n_IN_PARAM, n_IN_OUT, n_WORKFLOW_IN_WORKFLOW_OUT, n_WORKFLOW_IN_DERIVED, n_WORKFLOW_IN_PARAM, n_WORKFLOW_IN_OUT, n_WORKFLOW_OUT_DERIVED, n_WORKFLOW_OUT_PARAM, n_WORKFLOW_OUT_OUT, n_DERIVED_PARAM, n_DERIVED_OUT, n_PARAM_OUT⟩ := hp'
  refine MetFree.of_bodySF (plainFor_of_name own_pn0) hisR ?_
  intro p e s m args below meth c s₁ Bd hml0 hP hK
  obtain ⟨rfl, hZ, hh⟩ := hP
  have hx := Bd.exec
  have hby := Bd.bytes
  have hml : c.maxLocals = 1 := hml0
  have hown : s.vm.findClass "com/example/covell/covell/model/PortRoleIsWorkflowPortPinLaw" = some m.cls := findClass_of_methodNamed Bd.named
  have X0 : Stand p l e ({ frames := 0, cells := 0, slots := 0, locals := 0 } : Room) s m #[(.int (3 : Int32))] below meth c s₁ [] 0 0 := Stand.of_body Bd
  have e0 : s₁.heap = h0 := by rw [← hh, Bd.state]; rfl
  have N0 := Fr.nil n0
  have pre0 : ∀ t, Steps p.tables e below (s₁.setTop (mkF m 0 #[.val (.int (3 : Int32))] [])) t → Steps p.tables e below (s₁.setTop (entryFrame m #[(.int (3 : Int32))] 1)) t := fun t k => castTop (by first | (simp [entryFrame, mkF, argsToLocals, Value.category]; done) | rfl) k
  obtain ⟨T1, X1, e1, st1⟩ := getS X0 hx hZ hown (host := "") (hw _ (List.mem_of_getElem? (i := 19) rfl)) Via.refl e0 S_WORKFLOW_IN (g := (mkF m 31 #[.val (.int (3 : Int32))] [])) rfl (hb hby d1_31)
  obtain ⟨fs, hr, hrun, hended, hW, hsame⟩ := X1.leave (v := some (.ref a_WORKFLOW_IN)) (fun h => by rw [Bd.returns] at h; cases h)
  refine ⟨_, _, pre0 _ ?_, hrun, hended, _, _, rfl, ?_, ⟨_, rfl⟩, hW, hsame.mono (by decide) (by decide)⟩
  · show Steps p.tables e below (s₁.setTop (mkF m 0 #[.val (.int (3 : Int32))] [])) _
    refine XS.iloadN X0.here hx rfl (hb hby d1_0) rfl ?_
    show Steps p.tables e below (s₁.setTop (mkF m 1 #[.val (.int (3 : Int32))] [(.int (3 : Int32))])) _
    refine XS.ifYes X0.here hx rfl (pc0 := 1) (pc' := 8) rfl (hb hby d1_1) rfl (by decide) (by decide) (by decide) ?_
    show Steps p.tables e below (s₁.setTop (mkF m 8 #[.val (.int (3 : Int32))] [])) _
    refine XS.iloadN X0.here hx rfl (hb hby d1_8) rfl ?_
    show Steps p.tables e below (s₁.setTop (mkF m 9 #[.val (.int (3 : Int32))] [(.int (3 : Int32))])) _
    refine XS.iconst X0.here hx rfl (hb hby d1_9) ?_
    show Steps p.tables e below (s₁.setTop (mkF m 10 #[.val (.int (3 : Int32))] [(.int (1 : Int32)), (.int (3 : Int32))])) _
    refine XS.icmpYes X0.here hx rfl (pc0 := 10) (pc' := 17) rfl (hb hby d1_10) rfl (by decide) (by decide) (by decide) ?_
    show Steps p.tables e below (s₁.setTop (mkF m 17 #[.val (.int (3 : Int32))] [])) _
    refine XS.iloadN X0.here hx rfl (hb hby d1_17) rfl ?_
    show Steps p.tables e below (s₁.setTop (mkF m 18 #[.val (.int (3 : Int32))] [(.int (3 : Int32))])) _
    refine XS.iconst X0.here hx rfl (hb hby d1_18) ?_
    show Steps p.tables e below (s₁.setTop (mkF m 19 #[.val (.int (3 : Int32))] [(.int (2 : Int32)), (.int (3 : Int32))])) _
    refine XS.icmpYes X0.here hx rfl (pc0 := 19) (pc' := 26) rfl (hb hby d1_19) rfl (by decide) (by decide) (by decide) ?_
    show Steps p.tables e below (s₁.setTop (mkF m 26 #[.val (.int (3 : Int32))] [])) _
    refine XS.iloadN X0.here hx rfl (hb hby d1_26) rfl ?_
    show Steps p.tables e below (s₁.setTop (mkF m 27 #[.val (.int (3 : Int32))] [(.int (3 : Int32))])) _
    refine XS.iconst X0.here hx rfl (hb hby d1_27) ?_
    show Steps p.tables e below (s₁.setTop (mkF m 28 #[.val (.int (3 : Int32))] [(.int (3 : Int32)), (.int (3 : Int32))])) _
    refine XS.icmpNo X0.here hx rfl (hb hby d1_28) rfl (by decide) ?_
    show Steps p.tables e below (s₁.setTop (mkF m 31 #[.val (.int (3 : Int32))] [])) _
    refine st1 _ ?_
    show Steps p.tables e below (T1.setTop (mkF m 34 #[.val (.int (3 : Int32))] [(.ref a_WORKFLOW_IN)])) _
    exact retOut X1 hx Bd.returns rfl (Or.inr (Or.inr (Or.inr (Or.inr ⟨rfl, rfl, rfl⟩)))) (hb hby d1_34) hr
  · show own_Q _ h0 n0 _ T1.heap _
    exact ⟨rfl, N0, e1⟩
set_option maxRecDepth 65536 in
set_option maxHeartbeats 40000000 in
theorem own_b2_3 (l : Launch) (Z : State) (a0 : Array Value) (hw : ∀ d ∈ tables_1, d.before a0 Z = true) (ws : List Jvm.Cond) (a_IN a_WORKFLOW_IN a_WORKFLOW_OUT a_DERIVED a_PARAM a_OUT : Addr)  (h0 : Heap) (n0 : Nat) (hp : own_Pin Z h0 a_IN a_WORKFLOW_IN a_WORKFLOW_OUT a_DERIVED a_PARAM a_OUT) :
    MetFree l (⟨"com/example/covell/covell/model/PortRole", "isWorkflowPort", "()Z"⟩ : MethodName) (head1 (Jvm.Cond.code (⟨"com/example/covell/covell/model/PortRole", "isWorkflowPort", "()Z"⟩ : MethodName) prog_86_method_6_code 1 (some .boolean) :: ws) ({ frames := 0, cells := 0, slots := 0, locals := 0 } : Room)) (fun a U => a = #[(.ref a_WORKFLOW_IN)] ∧ Z.Warmed39 U.vm ∧ U.heap = h0) (fun _ _ _ _ _ => True) (fun _ U o U' => ∃ v L, o = .returned v ∧ own_Q (.int (1 : Int32)) h0 n0 v U'.heap L ∧ FrameEnd U o U' L ({ frames := 0, cells := 0, slots := 0, locals := 0 } : Room).cells ({ frames := 0, cells := 0, slots := 0, locals := 0 } : Room).slots) := by
  have hp' := hp
  obtain ⟨S_IN, S_WORKFLOW_IN, S_WORKFLOW_OUT, S_DERIVED, S_PARAM, S_OUT, E_IN, E_WORKFLOW_IN, E_WORKFLOW_OUT, E_DERIVED, E_PARAM, E_OUT, n_IN_WORKFLOW_IN, n_IN_WORKFLOW_OUT, n_IN_DERIVED, n_IN_PARAM, n_IN_OUT, n_WORKFLOW_IN_WORKFLOW_OUT, n_WORKFLOW_IN_DERIVED, n_WORKFLOW_IN_PARAM, n_WORKFLOW_IN_OUT, n_WORKFLOW_OUT_DERIVED, n_WORKFLOW_OUT_PARAM, n_WORKFLOW_OUT_OUT, n_DERIVED_PARAM, n_DERIVED_OUT, n_PARAM_OUT⟩ := hp'
  refine MetFree.of_bodySF (plainFor_of_name own_pn1) hisR ?_
  intro p e s m args below meth c s₁ Bd hml0 hP hK
  obtain ⟨rfl, hZ, hh⟩ := hP
  have hx := Bd.exec
  have hby := Bd.bytes
  have hml : c.maxLocals = 1 := hml0
  have hown : s.vm.findClass "com/example/covell/covell/model/PortRole" = some m.cls := findClass_of_methodNamed Bd.named
  have X0 : Stand p l e ({ frames := 0, cells := 0, slots := 0, locals := 0 } : Room) s m #[(.ref a_WORKFLOW_IN)] below meth c s₁ [] 0 0 := Stand.of_body Bd
  have e0 : s₁.heap = h0 := by rw [← hh, Bd.state]; rfl
  have N0 := Fr.nil n0
  have pre0 : ∀ t, Steps p.tables e below (s₁.setTop (mkF m 0 #[.val (.ref a_WORKFLOW_IN)] [])) t → Steps p.tables e below (s₁.setTop (entryFrame m #[(.ref a_WORKFLOW_IN)] 1)) t := fun t k => castTop (by first | (simp [entryFrame, mkF, argsToLocals, Value.category]; done) | rfl) k
  obtain ⟨T1, X1, e1, st1⟩ := getS X0 hx hZ hown (host := "") (hw _ (List.mem_of_getElem? (i := 13) rfl)) Via.refl e0 S_WORKFLOW_IN (g := (mkF m 0 #[.val (.ref a_WORKFLOW_IN)] [])) rfl (hb hby d2_0)
  obtain ⟨fs, hr, hrun, hended, hW, hsame⟩ := X1.leave (v := some (.int (1 : Int32))) (fun h => by rw [Bd.returns] at h; cases h)
  refine ⟨_, _, pre0 _ ?_, hrun, hended, _, _, rfl, ?_, ⟨_, rfl⟩, hW, hsame.mono (by decide) (by decide)⟩
  · show Steps p.tables e below (s₁.setTop (mkF m 0 #[.val (.ref a_WORKFLOW_IN)] [])) _
    refine st1 _ ?_
    show Steps p.tables e below (T1.setTop (mkF m 3 #[.val (.ref a_WORKFLOW_IN)] [(.ref a_WORKFLOW_IN)])) _
    refine XS.aloadN X1.here hx rfl (hb hby d2_3) rfl rfl ?_
    show Steps p.tables e below (T1.setTop (mkF m 4 #[.val (.ref a_WORKFLOW_IN)] [(.ref a_WORKFLOW_IN), (.ref a_WORKFLOW_IN)])) _
    refine Jvm.RoadKit.acmp (g := (mkF m 4 #[.val (.ref a_WORKFLOW_IN)] [(.ref a_WORKFLOW_IN), (.ref a_WORKFLOW_IN)])) X1 hx rfl rfl rfl (pc0 := 4) (pc' := 21) (same := true) rfl (hb hby d2_4) rfl (decide_eq_true rfl) (by decide) (by decide) ?_
    show Steps p.tables e below (T1.setTop (mkF m 21 #[.val (.ref a_WORKFLOW_IN)] [])) _
    refine XS.iconst X1.here hx rfl (hb hby d2_21) ?_
    show Steps p.tables e below (T1.setTop (mkF m 22 #[.val (.ref a_WORKFLOW_IN)] [(.int (1 : Int32))])) _
    refine XS.goto X1.here hx rfl (pc0 := 22) (pc' := 26) rfl (hb hby d2_22) (by decide) (by decide) ?_
    show Steps p.tables e below (T1.setTop (mkF m 26 #[.val (.ref a_WORKFLOW_IN)] [(.int (1 : Int32))])) _
    exact retN X1 hx (t := .boolean) Bd.returns (by simp) (hb hby d2_26) hr
  · show own_Q _ h0 n0 _ T1.heap _
    exact ⟨rfl, N0, e1⟩
set_option maxRecDepth 65536 in
set_option maxHeartbeats 40000000 in
theorem own_b1_4 (l : Launch) (Z : State) (a0 : Array Value) (hw : ∀ d ∈ tables_1, d.before a0 Z = true) (ws : List Jvm.Cond) (a_IN a_WORKFLOW_IN a_WORKFLOW_OUT a_DERIVED a_PARAM a_OUT : Addr)  (h0 : Heap) (n0 : Nat) (hp : own_Pin Z h0 a_IN a_WORKFLOW_IN a_WORKFLOW_OUT a_DERIVED a_PARAM a_OUT) :
    MetFree l (⟨"com/example/covell/covell/model/PortRoleIsWorkflowPortPinLaw", "pick", "(I)Lcom/example/covell/covell/model/PortRole;"⟩ : MethodName) (head1 (Jvm.Cond.code (⟨"com/example/covell/covell/model/PortRoleIsWorkflowPortPinLaw", "pick", "(I)Lcom/example/covell/covell/model/PortRole;"⟩ : MethodName) method_2_code 1 (some (.object "com/example/covell/covell/model/PortRole")) :: ws) ({ frames := 0, cells := 0, slots := 0, locals := 0 } : Room)) (fun a U => a = #[(.int (4 : Int32))] ∧ Z.Warmed39 U.vm ∧ U.heap = h0) (fun _ _ _ _ _ => True) (fun _ U o U' => ∃ v L, o = .returned v ∧ own_Q (.ref a_WORKFLOW_OUT) h0 n0 v U'.heap L ∧ FrameEnd U o U' L ({ frames := 0, cells := 0, slots := 0, locals := 0 } : Room).cells ({ frames := 0, cells := 0, slots := 0, locals := 0 } : Room).slots) := by
  have hp' := hp
  obtain ⟨S_IN, S_WORKFLOW_IN, S_WORKFLOW_OUT, S_DERIVED, S_PARAM, S_OUT, E_IN, E_WORKFLOW_IN, E_WORKFLOW_OUT, E_DERIVED, E_PARAM, E_OUT, n_IN_WORKFLOW_IN, n_IN_WORKFLOW_OUT, n_IN_DERIVED, n_IN_PARAM, n_IN_OUT, n_WORKFLOW_IN_WORKFLOW_OUT, n_WORKFLOW_IN_DERIVED, n_WORKFLOW_IN_PARAM, n_WORKFLOW_IN_OUT, n_WORKFLOW_OUT_DERIVED, n_WORKFLOW_OUT_PARAM, n_WORKFLOW_OUT_OUT, n_DERIVED_PARAM, n_DERIVED_OUT, n_PARAM_OUT⟩ := hp'
  refine MetFree.of_bodySF (plainFor_of_name own_pn0) hisR ?_
  intro p e s m args below meth c s₁ Bd hml0 hP hK
  obtain ⟨rfl, hZ, hh⟩ := hP
  have hx := Bd.exec
  have hby := Bd.bytes
  have hml : c.maxLocals = 1 := hml0
  have hown : s.vm.findClass "com/example/covell/covell/model/PortRoleIsWorkflowPortPinLaw" = some m.cls := findClass_of_methodNamed Bd.named
  have X0 : Stand p l e ({ frames := 0, cells := 0, slots := 0, locals := 0 } : Room) s m #[(.int (4 : Int32))] below meth c s₁ [] 0 0 := Stand.of_body Bd
  have e0 : s₁.heap = h0 := by rw [← hh, Bd.state]; rfl
  have N0 := Fr.nil n0
  have pre0 : ∀ t, Steps p.tables e below (s₁.setTop (mkF m 0 #[.val (.int (4 : Int32))] [])) t → Steps p.tables e below (s₁.setTop (entryFrame m #[(.int (4 : Int32))] 1)) t := fun t k => castTop (by first | (simp [entryFrame, mkF, argsToLocals, Value.category]; done) | rfl) k
  obtain ⟨T1, X1, e1, st1⟩ := getS X0 hx hZ hown (host := "") (hw _ (List.mem_of_getElem? (i := 25) rfl)) Via.refl e0 S_WORKFLOW_OUT (g := (mkF m 40 #[.val (.int (4 : Int32))] [])) rfl (hb hby d1_40)
  obtain ⟨fs, hr, hrun, hended, hW, hsame⟩ := X1.leave (v := some (.ref a_WORKFLOW_OUT)) (fun h => by rw [Bd.returns] at h; cases h)
  refine ⟨_, _, pre0 _ ?_, hrun, hended, _, _, rfl, ?_, ⟨_, rfl⟩, hW, hsame.mono (by decide) (by decide)⟩
  · show Steps p.tables e below (s₁.setTop (mkF m 0 #[.val (.int (4 : Int32))] [])) _
    refine XS.iloadN X0.here hx rfl (hb hby d1_0) rfl ?_
    show Steps p.tables e below (s₁.setTop (mkF m 1 #[.val (.int (4 : Int32))] [(.int (4 : Int32))])) _
    refine XS.ifYes X0.here hx rfl (pc0 := 1) (pc' := 8) rfl (hb hby d1_1) rfl (by decide) (by decide) (by decide) ?_
    show Steps p.tables e below (s₁.setTop (mkF m 8 #[.val (.int (4 : Int32))] [])) _
    refine XS.iloadN X0.here hx rfl (hb hby d1_8) rfl ?_
    show Steps p.tables e below (s₁.setTop (mkF m 9 #[.val (.int (4 : Int32))] [(.int (4 : Int32))])) _
    refine XS.iconst X0.here hx rfl (hb hby d1_9) ?_
    show Steps p.tables e below (s₁.setTop (mkF m 10 #[.val (.int (4 : Int32))] [(.int (1 : Int32)), (.int (4 : Int32))])) _
    refine XS.icmpYes X0.here hx rfl (pc0 := 10) (pc' := 17) rfl (hb hby d1_10) rfl (by decide) (by decide) (by decide) ?_
    show Steps p.tables e below (s₁.setTop (mkF m 17 #[.val (.int (4 : Int32))] [])) _
    refine XS.iloadN X0.here hx rfl (hb hby d1_17) rfl ?_
    show Steps p.tables e below (s₁.setTop (mkF m 18 #[.val (.int (4 : Int32))] [(.int (4 : Int32))])) _
    refine XS.iconst X0.here hx rfl (hb hby d1_18) ?_
    show Steps p.tables e below (s₁.setTop (mkF m 19 #[.val (.int (4 : Int32))] [(.int (2 : Int32)), (.int (4 : Int32))])) _
    refine XS.icmpYes X0.here hx rfl (pc0 := 19) (pc' := 26) rfl (hb hby d1_19) rfl (by decide) (by decide) (by decide) ?_
    show Steps p.tables e below (s₁.setTop (mkF m 26 #[.val (.int (4 : Int32))] [])) _
    refine XS.iloadN X0.here hx rfl (hb hby d1_26) rfl ?_
    show Steps p.tables e below (s₁.setTop (mkF m 27 #[.val (.int (4 : Int32))] [(.int (4 : Int32))])) _
    refine XS.iconst X0.here hx rfl (hb hby d1_27) ?_
    show Steps p.tables e below (s₁.setTop (mkF m 28 #[.val (.int (4 : Int32))] [(.int (3 : Int32)), (.int (4 : Int32))])) _
    refine XS.icmpYes X0.here hx rfl (pc0 := 28) (pc' := 35) rfl (hb hby d1_28) rfl (by decide) (by decide) (by decide) ?_
    show Steps p.tables e below (s₁.setTop (mkF m 35 #[.val (.int (4 : Int32))] [])) _
    refine XS.iloadN X0.here hx rfl (hb hby d1_35) rfl ?_
    show Steps p.tables e below (s₁.setTop (mkF m 36 #[.val (.int (4 : Int32))] [(.int (4 : Int32))])) _
    refine XS.iconst X0.here hx rfl (hb hby d1_36) ?_
    show Steps p.tables e below (s₁.setTop (mkF m 37 #[.val (.int (4 : Int32))] [(.int (4 : Int32)), (.int (4 : Int32))])) _
    refine XS.icmpNo X0.here hx rfl (hb hby d1_37) rfl (by decide) ?_
    show Steps p.tables e below (s₁.setTop (mkF m 40 #[.val (.int (4 : Int32))] [])) _
    refine st1 _ ?_
    show Steps p.tables e below (T1.setTop (mkF m 43 #[.val (.int (4 : Int32))] [(.ref a_WORKFLOW_OUT)])) _
    exact retOut X1 hx Bd.returns rfl (Or.inr (Or.inr (Or.inr (Or.inr ⟨rfl, rfl, rfl⟩)))) (hb hby d1_43) hr
  · show own_Q _ h0 n0 _ T1.heap _
    exact ⟨rfl, N0, e1⟩
set_option maxRecDepth 65536 in
set_option maxHeartbeats 40000000 in
theorem own_b2_4 (l : Launch) (Z : State) (a0 : Array Value) (hw : ∀ d ∈ tables_1, d.before a0 Z = true) (ws : List Jvm.Cond) (a_IN a_WORKFLOW_IN a_WORKFLOW_OUT a_DERIVED a_PARAM a_OUT : Addr)  (h0 : Heap) (n0 : Nat) (hp : own_Pin Z h0 a_IN a_WORKFLOW_IN a_WORKFLOW_OUT a_DERIVED a_PARAM a_OUT) :
    MetFree l (⟨"com/example/covell/covell/model/PortRole", "isWorkflowPort", "()Z"⟩ : MethodName) (head1 (Jvm.Cond.code (⟨"com/example/covell/covell/model/PortRole", "isWorkflowPort", "()Z"⟩ : MethodName) prog_86_method_6_code 1 (some .boolean) :: ws) ({ frames := 0, cells := 0, slots := 0, locals := 0 } : Room)) (fun a U => a = #[(.ref a_WORKFLOW_OUT)] ∧ Z.Warmed39 U.vm ∧ U.heap = h0) (fun _ _ _ _ _ => True) (fun _ U o U' => ∃ v L, o = .returned v ∧ own_Q (.int (1 : Int32)) h0 n0 v U'.heap L ∧ FrameEnd U o U' L ({ frames := 0, cells := 0, slots := 0, locals := 0 } : Room).cells ({ frames := 0, cells := 0, slots := 0, locals := 0 } : Room).slots) := by
  have hp' := hp
  obtain ⟨S_IN, S_WORKFLOW_IN, S_WORKFLOW_OUT, S_DERIVED, S_PARAM, S_OUT, E_IN, E_WORKFLOW_IN, E_WORKFLOW_OUT, E_DERIVED, E_PARAM, E_OUT, n_IN_WORKFLOW_IN, n_IN_WORKFLOW_OUT, n_IN_DERIVED, n_IN_PARAM, n_IN_OUT, n_WORKFLOW_IN_WORKFLOW_OUT, n_WORKFLOW_IN_DERIVED, n_WORKFLOW_IN_PARAM, n_WORKFLOW_IN_OUT, n_WORKFLOW_OUT_DERIVED, n_WORKFLOW_OUT_PARAM, n_WORKFLOW_OUT_OUT, n_DERIVED_PARAM, n_DERIVED_OUT, n_PARAM_OUT⟩ := hp'
  refine MetFree.of_bodySF (plainFor_of_name own_pn1) hisR ?_
  intro p e s m args below meth c s₁ Bd hml0 hP hK
  obtain ⟨rfl, hZ, hh⟩ := hP
  have hx := Bd.exec
  have hby := Bd.bytes
  have hml : c.maxLocals = 1 := hml0
  have hown : s.vm.findClass "com/example/covell/covell/model/PortRole" = some m.cls := findClass_of_methodNamed Bd.named
  have X0 : Stand p l e ({ frames := 0, cells := 0, slots := 0, locals := 0 } : Room) s m #[(.ref a_WORKFLOW_OUT)] below meth c s₁ [] 0 0 := Stand.of_body Bd
  have e0 : s₁.heap = h0 := by rw [← hh, Bd.state]; rfl
  have N0 := Fr.nil n0
  have pre0 : ∀ t, Steps p.tables e below (s₁.setTop (mkF m 0 #[.val (.ref a_WORKFLOW_OUT)] [])) t → Steps p.tables e below (s₁.setTop (entryFrame m #[(.ref a_WORKFLOW_OUT)] 1)) t := fun t k => castTop (by first | (simp [entryFrame, mkF, argsToLocals, Value.category]; done) | rfl) k
  obtain ⟨T1, X1, e1, st1⟩ := getS X0 hx hZ hown (host := "") (hw _ (List.mem_of_getElem? (i := 13) rfl)) Via.refl e0 S_WORKFLOW_IN (g := (mkF m 0 #[.val (.ref a_WORKFLOW_OUT)] [])) rfl (hb hby d2_0)
  obtain ⟨T2, X2, e2, st2⟩ := getS X1 hx hZ hown (host := "") (hw _ (List.mem_of_getElem? (i := 15) rfl)) Via.refl e1 S_WORKFLOW_OUT (g := (mkF m 7 #[.val (.ref a_WORKFLOW_OUT)] [])) rfl (hb hby d2_7)
  obtain ⟨fs, hr, hrun, hended, hW, hsame⟩ := X2.leave (v := some (.int (1 : Int32))) (fun h => by rw [Bd.returns] at h; cases h)
  refine ⟨_, _, pre0 _ ?_, hrun, hended, _, _, rfl, ?_, ⟨_, rfl⟩, hW, hsame.mono (by decide) (by decide)⟩
  · show Steps p.tables e below (s₁.setTop (mkF m 0 #[.val (.ref a_WORKFLOW_OUT)] [])) _
    refine st1 _ ?_
    show Steps p.tables e below (T1.setTop (mkF m 3 #[.val (.ref a_WORKFLOW_OUT)] [(.ref a_WORKFLOW_IN)])) _
    refine XS.aloadN X1.here hx rfl (hb hby d2_3) rfl rfl ?_
    show Steps p.tables e below (T1.setTop (mkF m 4 #[.val (.ref a_WORKFLOW_OUT)] [(.ref a_WORKFLOW_OUT), (.ref a_WORKFLOW_IN)])) _
    refine Jvm.RoadKit.acmp (g := (mkF m 4 #[.val (.ref a_WORKFLOW_OUT)] [(.ref a_WORKFLOW_OUT), (.ref a_WORKFLOW_IN)])) X1 hx rfl rfl rfl (pc0 := 4) (pc' := 7) (same := false) rfl (hb hby d2_4) rfl (decide_eq_false fun q => n_WORKFLOW_IN_WORKFLOW_OUT (Value.ref.inj q)) (by decide) (by decide) ?_
    show Steps p.tables e below (T1.setTop (mkF m 7 #[.val (.ref a_WORKFLOW_OUT)] [])) _
    refine st2 _ ?_
    show Steps p.tables e below (T2.setTop (mkF m 10 #[.val (.ref a_WORKFLOW_OUT)] [(.ref a_WORKFLOW_OUT)])) _
    refine XS.aloadN X2.here hx rfl (hb hby d2_10) rfl rfl ?_
    show Steps p.tables e below (T2.setTop (mkF m 11 #[.val (.ref a_WORKFLOW_OUT)] [(.ref a_WORKFLOW_OUT), (.ref a_WORKFLOW_OUT)])) _
    refine Jvm.RoadKit.acmp (g := (mkF m 11 #[.val (.ref a_WORKFLOW_OUT)] [(.ref a_WORKFLOW_OUT), (.ref a_WORKFLOW_OUT)])) X2 hx rfl rfl rfl (pc0 := 11) (pc' := 21) (same := true) rfl (hb hby d2_11) rfl (decide_eq_true rfl) (by decide) (by decide) ?_
    show Steps p.tables e below (T2.setTop (mkF m 21 #[.val (.ref a_WORKFLOW_OUT)] [])) _
    refine XS.iconst X2.here hx rfl (hb hby d2_21) ?_
    show Steps p.tables e below (T2.setTop (mkF m 22 #[.val (.ref a_WORKFLOW_OUT)] [(.int (1 : Int32))])) _
    refine XS.goto X2.here hx rfl (pc0 := 22) (pc' := 26) rfl (hb hby d2_22) (by decide) (by decide) ?_
    show Steps p.tables e below (T2.setTop (mkF m 26 #[.val (.ref a_WORKFLOW_OUT)] [(.int (1 : Int32))])) _
    exact retN X2 hx (t := .boolean) Bd.returns (by simp) (hb hby d2_26) hr
  · show own_Q _ h0 n0 _ T2.heap _
    exact ⟨rfl, N0, e2⟩
set_option maxRecDepth 65536 in
set_option maxHeartbeats 40000000 in
theorem own_b1_5 (l : Launch) (Z : State) (a0 : Array Value) (hw : ∀ d ∈ tables_1, d.before a0 Z = true) (ws : List Jvm.Cond) (a_IN a_WORKFLOW_IN a_WORKFLOW_OUT a_DERIVED a_PARAM a_OUT : Addr)  (h0 : Heap) (n0 : Nat) (hp : own_Pin Z h0 a_IN a_WORKFLOW_IN a_WORKFLOW_OUT a_DERIVED a_PARAM a_OUT) :
    MetFree l (⟨"com/example/covell/covell/model/PortRoleIsWorkflowPortPinLaw", "pick", "(I)Lcom/example/covell/covell/model/PortRole;"⟩ : MethodName) (head1 (Jvm.Cond.code (⟨"com/example/covell/covell/model/PortRoleIsWorkflowPortPinLaw", "pick", "(I)Lcom/example/covell/covell/model/PortRole;"⟩ : MethodName) method_2_code 1 (some (.object "com/example/covell/covell/model/PortRole")) :: ws) ({ frames := 0, cells := 0, slots := 0, locals := 0 } : Room)) (fun a U => a = #[(.int (5 : Int32))] ∧ Z.Warmed39 U.vm ∧ U.heap = h0) (fun _ _ _ _ _ => True) (fun _ U o U' => ∃ v L, o = .returned v ∧ own_Q (.ref a_DERIVED) h0 n0 v U'.heap L ∧ FrameEnd U o U' L ({ frames := 0, cells := 0, slots := 0, locals := 0 } : Room).cells ({ frames := 0, cells := 0, slots := 0, locals := 0 } : Room).slots) := by
  have hp' := hp
  obtain ⟨S_IN, S_WORKFLOW_IN, S_WORKFLOW_OUT, S_DERIVED, S_PARAM, S_OUT, E_IN, E_WORKFLOW_IN, E_WORKFLOW_OUT, E_DERIVED, E_PARAM, E_OUT, n_IN_WORKFLOW_IN, n_IN_WORKFLOW_OUT, n_IN_DERIVED, n_IN_PARAM, n_IN_OUT, n_WORKFLOW_IN_WORKFLOW_OUT, n_WORKFLOW_IN_DERIVED, n_WORKFLOW_IN_PARAM, n_WORKFLOW_IN_OUT, n_WORKFLOW_OUT_DERIVED, n_WORKFLOW_OUT_PARAM, n_WORKFLOW_OUT_OUT, n_DERIVED_PARAM, n_DERIVED_OUT, n_PARAM_OUT⟩ := hp'
  refine MetFree.of_bodySF (plainFor_of_name own_pn0) hisR ?_
  intro p e s m args below meth c s₁ Bd hml0 hP hK
  obtain ⟨rfl, hZ, hh⟩ := hP
  have hx := Bd.exec
  have hby := Bd.bytes
  have hml : c.maxLocals = 1 := hml0
  have hown : s.vm.findClass "com/example/covell/covell/model/PortRoleIsWorkflowPortPinLaw" = some m.cls := findClass_of_methodNamed Bd.named
  have X0 : Stand p l e ({ frames := 0, cells := 0, slots := 0, locals := 0 } : Room) s m #[(.int (5 : Int32))] below meth c s₁ [] 0 0 := Stand.of_body Bd
  have e0 : s₁.heap = h0 := by rw [← hh, Bd.state]; rfl
  have N0 := Fr.nil n0
  have pre0 : ∀ t, Steps p.tables e below (s₁.setTop (mkF m 0 #[.val (.int (5 : Int32))] [])) t → Steps p.tables e below (s₁.setTop (entryFrame m #[(.int (5 : Int32))] 1)) t := fun t k => castTop (by first | (simp [entryFrame, mkF, argsToLocals, Value.category]; done) | rfl) k
  obtain ⟨T1, X1, e1, st1⟩ := getS X0 hx hZ hown (host := "") (hw _ (List.mem_of_getElem? (i := 24) rfl)) Via.refl e0 S_DERIVED (g := (mkF m 44 #[.val (.int (5 : Int32))] [])) rfl (hb hby d1_44)
  obtain ⟨fs, hr, hrun, hended, hW, hsame⟩ := X1.leave (v := some (.ref a_DERIVED)) (fun h => by rw [Bd.returns] at h; cases h)
  refine ⟨_, _, pre0 _ ?_, hrun, hended, _, _, rfl, ?_, ⟨_, rfl⟩, hW, hsame.mono (by decide) (by decide)⟩
  · show Steps p.tables e below (s₁.setTop (mkF m 0 #[.val (.int (5 : Int32))] [])) _
    refine XS.iloadN X0.here hx rfl (hb hby d1_0) rfl ?_
    show Steps p.tables e below (s₁.setTop (mkF m 1 #[.val (.int (5 : Int32))] [(.int (5 : Int32))])) _
    refine XS.ifYes X0.here hx rfl (pc0 := 1) (pc' := 8) rfl (hb hby d1_1) rfl (by decide) (by decide) (by decide) ?_
    show Steps p.tables e below (s₁.setTop (mkF m 8 #[.val (.int (5 : Int32))] [])) _
    refine XS.iloadN X0.here hx rfl (hb hby d1_8) rfl ?_
    show Steps p.tables e below (s₁.setTop (mkF m 9 #[.val (.int (5 : Int32))] [(.int (5 : Int32))])) _
    refine XS.iconst X0.here hx rfl (hb hby d1_9) ?_
    show Steps p.tables e below (s₁.setTop (mkF m 10 #[.val (.int (5 : Int32))] [(.int (1 : Int32)), (.int (5 : Int32))])) _
    refine XS.icmpYes X0.here hx rfl (pc0 := 10) (pc' := 17) rfl (hb hby d1_10) rfl (by decide) (by decide) (by decide) ?_
    show Steps p.tables e below (s₁.setTop (mkF m 17 #[.val (.int (5 : Int32))] [])) _
    refine XS.iloadN X0.here hx rfl (hb hby d1_17) rfl ?_
    show Steps p.tables e below (s₁.setTop (mkF m 18 #[.val (.int (5 : Int32))] [(.int (5 : Int32))])) _
    refine XS.iconst X0.here hx rfl (hb hby d1_18) ?_
    show Steps p.tables e below (s₁.setTop (mkF m 19 #[.val (.int (5 : Int32))] [(.int (2 : Int32)), (.int (5 : Int32))])) _
    refine XS.icmpYes X0.here hx rfl (pc0 := 19) (pc' := 26) rfl (hb hby d1_19) rfl (by decide) (by decide) (by decide) ?_
    show Steps p.tables e below (s₁.setTop (mkF m 26 #[.val (.int (5 : Int32))] [])) _
    refine XS.iloadN X0.here hx rfl (hb hby d1_26) rfl ?_
    show Steps p.tables e below (s₁.setTop (mkF m 27 #[.val (.int (5 : Int32))] [(.int (5 : Int32))])) _
    refine XS.iconst X0.here hx rfl (hb hby d1_27) ?_
    show Steps p.tables e below (s₁.setTop (mkF m 28 #[.val (.int (5 : Int32))] [(.int (3 : Int32)), (.int (5 : Int32))])) _
    refine XS.icmpYes X0.here hx rfl (pc0 := 28) (pc' := 35) rfl (hb hby d1_28) rfl (by decide) (by decide) (by decide) ?_
    show Steps p.tables e below (s₁.setTop (mkF m 35 #[.val (.int (5 : Int32))] [])) _
    refine XS.iloadN X0.here hx rfl (hb hby d1_35) rfl ?_
    show Steps p.tables e below (s₁.setTop (mkF m 36 #[.val (.int (5 : Int32))] [(.int (5 : Int32))])) _
    refine XS.iconst X0.here hx rfl (hb hby d1_36) ?_
    show Steps p.tables e below (s₁.setTop (mkF m 37 #[.val (.int (5 : Int32))] [(.int (4 : Int32)), (.int (5 : Int32))])) _
    refine XS.icmpYes X0.here hx rfl (pc0 := 37) (pc' := 44) rfl (hb hby d1_37) rfl (by decide) (by decide) (by decide) ?_
    show Steps p.tables e below (s₁.setTop (mkF m 44 #[.val (.int (5 : Int32))] [])) _
    refine st1 _ ?_
    show Steps p.tables e below (T1.setTop (mkF m 47 #[.val (.int (5 : Int32))] [(.ref a_DERIVED)])) _
    exact retOut X1 hx Bd.returns rfl (Or.inr (Or.inr (Or.inr (Or.inr ⟨rfl, rfl, rfl⟩)))) (hb hby d1_47) hr
  · show own_Q _ h0 n0 _ T1.heap _
    exact ⟨rfl, N0, e1⟩
set_option maxRecDepth 65536 in
set_option maxHeartbeats 40000000 in
theorem own_b2_5 (l : Launch) (Z : State) (a0 : Array Value) (hw : ∀ d ∈ tables_1, d.before a0 Z = true) (ws : List Jvm.Cond) (a_IN a_WORKFLOW_IN a_WORKFLOW_OUT a_DERIVED a_PARAM a_OUT : Addr)  (h0 : Heap) (n0 : Nat) (hp : own_Pin Z h0 a_IN a_WORKFLOW_IN a_WORKFLOW_OUT a_DERIVED a_PARAM a_OUT) :
    MetFree l (⟨"com/example/covell/covell/model/PortRole", "isWorkflowPort", "()Z"⟩ : MethodName) (head1 (Jvm.Cond.code (⟨"com/example/covell/covell/model/PortRole", "isWorkflowPort", "()Z"⟩ : MethodName) prog_86_method_6_code 1 (some .boolean) :: ws) ({ frames := 0, cells := 0, slots := 0, locals := 0 } : Room)) (fun a U => a = #[(.ref a_DERIVED)] ∧ Z.Warmed39 U.vm ∧ U.heap = h0) (fun _ _ _ _ _ => True) (fun _ U o U' => ∃ v L, o = .returned v ∧ own_Q (.int (1 : Int32)) h0 n0 v U'.heap L ∧ FrameEnd U o U' L ({ frames := 0, cells := 0, slots := 0, locals := 0 } : Room).cells ({ frames := 0, cells := 0, slots := 0, locals := 0 } : Room).slots) := by
  have hp' := hp
  obtain ⟨S_IN, S_WORKFLOW_IN, S_WORKFLOW_OUT, S_DERIVED, S_PARAM, S_OUT, E_IN, E_WORKFLOW_IN, E_WORKFLOW_OUT, E_DERIVED, E_PARAM, E_OUT, n_IN_WORKFLOW_IN, n_IN_WORKFLOW_OUT, n_IN_DERIVED, n_IN_PARAM, n_IN_OUT, n_WORKFLOW_IN_WORKFLOW_OUT, n_WORKFLOW_IN_DERIVED, n_WORKFLOW_IN_PARAM, n_WORKFLOW_IN_OUT, n_WORKFLOW_OUT_DERIVED, n_WORKFLOW_OUT_PARAM, n_WORKFLOW_OUT_OUT, n_DERIVED_PARAM, n_DERIVED_OUT, n_PARAM_OUT⟩ := hp'
  refine MetFree.of_bodySF (plainFor_of_name own_pn1) hisR ?_
  intro p e s m args below meth c s₁ Bd hml0 hP hK
  obtain ⟨rfl, hZ, hh⟩ := hP
  have hx := Bd.exec
  have hby := Bd.bytes
  have hml : c.maxLocals = 1 := hml0
  have hown : s.vm.findClass "com/example/covell/covell/model/PortRole" = some m.cls := findClass_of_methodNamed Bd.named
  have X0 : Stand p l e ({ frames := 0, cells := 0, slots := 0, locals := 0 } : Room) s m #[(.ref a_DERIVED)] below meth c s₁ [] 0 0 := Stand.of_body Bd
  have e0 : s₁.heap = h0 := by rw [← hh, Bd.state]; rfl
  have N0 := Fr.nil n0
  have pre0 : ∀ t, Steps p.tables e below (s₁.setTop (mkF m 0 #[.val (.ref a_DERIVED)] [])) t → Steps p.tables e below (s₁.setTop (entryFrame m #[(.ref a_DERIVED)] 1)) t := fun t k => castTop (by first | (simp [entryFrame, mkF, argsToLocals, Value.category]; done) | rfl) k
  obtain ⟨T1, X1, e1, st1⟩ := getS X0 hx hZ hown (host := "") (hw _ (List.mem_of_getElem? (i := 13) rfl)) Via.refl e0 S_WORKFLOW_IN (g := (mkF m 0 #[.val (.ref a_DERIVED)] [])) rfl (hb hby d2_0)
  obtain ⟨T2, X2, e2, st2⟩ := getS X1 hx hZ hown (host := "") (hw _ (List.mem_of_getElem? (i := 15) rfl)) Via.refl e1 S_WORKFLOW_OUT (g := (mkF m 7 #[.val (.ref a_DERIVED)] [])) rfl (hb hby d2_7)
  obtain ⟨T3, X3, e3, st3⟩ := getS X2 hx hZ hown (host := "") (hw _ (List.mem_of_getElem? (i := 17) rfl)) Via.refl e2 S_DERIVED (g := (mkF m 14 #[.val (.ref a_DERIVED)] [])) rfl (hb hby d2_14)
  obtain ⟨fs, hr, hrun, hended, hW, hsame⟩ := X3.leave (v := some (.int (1 : Int32))) (fun h => by rw [Bd.returns] at h; cases h)
  refine ⟨_, _, pre0 _ ?_, hrun, hended, _, _, rfl, ?_, ⟨_, rfl⟩, hW, hsame.mono (by decide) (by decide)⟩
  · show Steps p.tables e below (s₁.setTop (mkF m 0 #[.val (.ref a_DERIVED)] [])) _
    refine st1 _ ?_
    show Steps p.tables e below (T1.setTop (mkF m 3 #[.val (.ref a_DERIVED)] [(.ref a_WORKFLOW_IN)])) _
    refine XS.aloadN X1.here hx rfl (hb hby d2_3) rfl rfl ?_
    show Steps p.tables e below (T1.setTop (mkF m 4 #[.val (.ref a_DERIVED)] [(.ref a_DERIVED), (.ref a_WORKFLOW_IN)])) _
    refine Jvm.RoadKit.acmp (g := (mkF m 4 #[.val (.ref a_DERIVED)] [(.ref a_DERIVED), (.ref a_WORKFLOW_IN)])) X1 hx rfl rfl rfl (pc0 := 4) (pc' := 7) (same := false) rfl (hb hby d2_4) rfl (decide_eq_false fun q => n_WORKFLOW_IN_DERIVED (Value.ref.inj q)) (by decide) (by decide) ?_
    show Steps p.tables e below (T1.setTop (mkF m 7 #[.val (.ref a_DERIVED)] [])) _
    refine st2 _ ?_
    show Steps p.tables e below (T2.setTop (mkF m 10 #[.val (.ref a_DERIVED)] [(.ref a_WORKFLOW_OUT)])) _
    refine XS.aloadN X2.here hx rfl (hb hby d2_10) rfl rfl ?_
    show Steps p.tables e below (T2.setTop (mkF m 11 #[.val (.ref a_DERIVED)] [(.ref a_DERIVED), (.ref a_WORKFLOW_OUT)])) _
    refine Jvm.RoadKit.acmp (g := (mkF m 11 #[.val (.ref a_DERIVED)] [(.ref a_DERIVED), (.ref a_WORKFLOW_OUT)])) X2 hx rfl rfl rfl (pc0 := 11) (pc' := 14) (same := false) rfl (hb hby d2_11) rfl (decide_eq_false fun q => n_WORKFLOW_OUT_DERIVED (Value.ref.inj q)) (by decide) (by decide) ?_
    show Steps p.tables e below (T2.setTop (mkF m 14 #[.val (.ref a_DERIVED)] [])) _
    refine st3 _ ?_
    show Steps p.tables e below (T3.setTop (mkF m 17 #[.val (.ref a_DERIVED)] [(.ref a_DERIVED)])) _
    refine XS.aloadN X3.here hx rfl (hb hby d2_17) rfl rfl ?_
    show Steps p.tables e below (T3.setTop (mkF m 18 #[.val (.ref a_DERIVED)] [(.ref a_DERIVED), (.ref a_DERIVED)])) _
    refine Jvm.RoadKit.acmp (g := (mkF m 18 #[.val (.ref a_DERIVED)] [(.ref a_DERIVED), (.ref a_DERIVED)])) X3 hx rfl rfl rfl (pc0 := 18) (pc' := 21) (same := true) rfl (hb hby d2_18) rfl (decide_eq_true rfl) (by decide) (by decide) ?_
    show Steps p.tables e below (T3.setTop (mkF m 21 #[.val (.ref a_DERIVED)] [])) _
    refine XS.iconst X3.here hx rfl (hb hby d2_21) ?_
    show Steps p.tables e below (T3.setTop (mkF m 22 #[.val (.ref a_DERIVED)] [(.int (1 : Int32))])) _
    refine XS.goto X3.here hx rfl (pc0 := 22) (pc' := 26) rfl (hb hby d2_22) (by decide) (by decide) ?_
    show Steps p.tables e below (T3.setTop (mkF m 26 #[.val (.ref a_DERIVED)] [(.int (1 : Int32))])) _
    exact retN X3 hx (t := .boolean) Bd.returns (by simp) (hb hby d2_26) hr
  · show own_Q _ h0 n0 _ T3.heap _
    exact ⟨rfl, N0, e3⟩
set_option maxRecDepth 65536 in
set_option maxHeartbeats 40000000 in
theorem own_law_0 (l : Launch) (Z : State) (a0 : Array Value) (hw : ∀ d ∈ tables_1, d.before a0 Z = true) (ws : List Jvm.Cond) (a_IN a_WORKFLOW_IN a_WORKFLOW_OUT a_DERIVED a_PARAM a_OUT : Addr) (p1 : Int32) (h0 : Heap) (n0 : Nat) (hp : own_Pin Z h0 a_IN a_WORKFLOW_IN a_WORKFLOW_OUT a_DERIVED a_PARAM a_OUT) (hi : ((p1 &&& (2147483647 : Int32)) % (6 : Int32)) = (0 : Int32)) :
    MetFree l x (head1 (Jvm.Cond.code x code maxLocals ret :: ws) room_1) (fun a U => a = #[(.int p1)] ∧ Z.Warmed39 U.vm ∧ U.heap = h0) (fun _ _ _ _ _ => True) (fun _ U o U' => ∃ v L, o = .returned v ∧ own_Q (.int (1 : Int32)) h0 n0 v U'.heap L ∧ FrameEnd U o U' L room_1.cells room_1.slots) := by
  have hp' := hp
  obtain ⟨S_IN, S_WORKFLOW_IN, S_WORKFLOW_OUT, S_DERIVED, S_PARAM, S_OUT, E_IN, E_WORKFLOW_IN, E_WORKFLOW_OUT, E_DERIVED, E_PARAM, E_OUT, n_IN_WORKFLOW_IN, n_IN_WORKFLOW_OUT, n_IN_DERIVED, n_IN_PARAM, n_IN_OUT, n_WORKFLOW_IN_WORKFLOW_OUT, n_WORKFLOW_IN_DERIVED, n_WORKFLOW_IN_PARAM, n_WORKFLOW_IN_OUT, n_WORKFLOW_OUT_DERIVED, n_WORKFLOW_OUT_PARAM, n_WORKFLOW_OUT_OUT, n_DERIVED_PARAM, n_DERIVED_OUT, n_PARAM_OUT⟩ := hp'
  refine MetFree.of_bodySF (plainFor_of_name own_pn0) hisR ?_
  intro p e s m args below meth c s₁ Bd hml0 hP hK
  obtain ⟨rfl, hZ, hh⟩ := hP
  have hx := Bd.exec
  have hby := Bd.bytes
  have hml : c.maxLocals = 4 := hml0
  have hown : s.vm.findClass "com/example/covell/covell/model/PortRoleIsWorkflowPortPinLaw" = some m.cls := findClass_of_methodNamed Bd.named
  have X0 : Stand p l e room_1 s m #[(.int p1)] below meth c s₁ [] 0 0 := Stand.of_body Bd
  have e0 : s₁.heap = h0 := by rw [← hh, Bd.state]; rfl
  have N0 := Fr.nil n0
  have pre0 : ∀ t, Steps p.tables e below (s₁.setTop (mkF m 0 #[.val (.int p1), .unset, .unset, .unset] [])) t → Steps p.tables e below (s₁.setTop (entryFrame m #[(.int p1)] maxLocals)) t := fun t k => castTop (by first | (simp [entryFrame, mkF, argsToLocals, Value.category, maxLocals]; done) | rfl) k
  obtain ⟨_, _, ⟨T1, L1, k1, n1⟩, -, X1, ⟨Lc1, hQ1, l1, y1, z1⟩, st1⟩ := Jvm.LawKit.callS X0 hx (y := (⟨"com/example/covell/covell/model/PortRoleIsWorkflowPortPinLaw", "pick", "(I)Lcom/example/covell/covell/model/PortRole;"⟩ : MethodName)) hown (mvT hZ (hw _ (List.mem_of_getElem? (i := 1) rfl))) (mvT hZ (hw _ (List.mem_of_getElem? (i := 2) rfl))) (mvT hZ (hw _ (List.mem_of_getElem? (i := 3) rfl))) (mvT hZ (hw _ (List.mem_of_getElem? (i := 4) rfl))) (by decide) (backOf (W := 0) (own_b1_0 l Z a0 hw [] a_IN a_WORKFLOW_IN a_WORKFLOW_OUT a_DERIVED a_PARAM a_OUT  h0 n0 hp) hZ (hw _ (List.mem_of_getElem? (i := 4) rfl)) (hw _ (List.mem_of_getElem? (i := 3) rfl)) (by decide) (by decide)) (g := (mkF m 9 #[.val (.int p1), .val (.int (0 : Int32)), .unset, .unset] [(.int (0 : Int32))])) rfl (by rw [hml]; rfl) (argsL := [(.int (0 : Int32))]) (rest := []) (lenOf own_pd0 rfl) rfl (by show 2 * 0 + _ ≤ _; exact Nat.le_of_eq rfl) (hb hby at_9) (fun _ _ => ⟨rfl, e0, (by decide : 0 + 0 ≤ _), (by decide : 0 + 0 ≤ _)⟩)
  dsimp only [Pt.U, Pt.locs, Pt.cells, Pt.slots] at X1 l1 y1 z1 st1 hQ1
  subst l1 y1 z1
  obtain ⟨rfl, N1q, e1⟩ := hQ1
  have N1 := Fr.app N0 N1q
  obtain ⟨T2, X2, e2, st2⟩ := getS X1 hx hZ hown (host := "") (hw _ (List.mem_of_getElem? (i := 5) rfl)) Via.refl e1 S_IN (g := (mkF m 14 #[.val (.int p1), .val (.int (0 : Int32)), .val (.ref a_IN), .unset] [(.ref a_IN)])) rfl (hb hby at_14)
  obtain ⟨cq3, kq3, q3a, q3b, q3c⟩ := isOf hZ e2 E_IN
  obtain ⟨_, _, ⟨T3, L3, k3, n3⟩, -, X3, ⟨Lc3, hQ3, l3, y3, z3⟩, st3⟩ := X2.virtualBack hx (y := (⟨"com/example/covell/covell/model/PortRole", "isWorkflowPort", "()Z"⟩ : MethodName)) (z := (⟨"com/example/covell/covell/model/PortRole", "isWorkflowPort", "()Z"⟩ : MethodName)) hown (mvT hZ (hw _ (List.mem_of_getElem? (i := 8) rfl))) (mvT hZ (hw _ (List.mem_of_getElem? (i := 9) rfl))) (notFace_of_selects (args := #[]) (mvT hZ (hw _ (List.mem_of_getElem? (i := 11) rfl)))) (mvT hZ (hw _ (List.mem_of_getElem? (i := 11) rfl))) (mvT hZ (hw _ (List.mem_of_getElem? (i := 10) rfl))) (by decide) (backOf (W := 0) (own_b2_0 l Z a0 hw [] a_IN a_WORKFLOW_IN a_WORKFLOW_OUT a_DERIVED a_PARAM a_OUT  h0 n0 hp) hZ (hw _ (List.mem_of_getElem? (i := 12) rfl)) (hw _ (List.mem_of_getElem? (i := 6) rfl)) (by decide) (by decide)) q3a q3c (g := (mkF m 41 #[.val (.int p1), .val (.int (0 : Int32)), .val (.ref a_IN), .val (.int (1 : Int32))] [(.ref a_IN)])) rfl (by rw [hml]; rfl) (Steps.refl _) (argsL := []) (rest := []) (lenOf own_pd1 rfl) rfl (by show 2 * 0 + _ ≤ _; exact Nat.le_of_eq rfl) (hb hby at_41) (fun _ _ => ⟨rfl, e2, (by decide : 0 + 0 ≤ _), (by decide : 0 + 0 ≤ _)⟩)
  dsimp only [Pt.U, Pt.locs, Pt.cells, Pt.slots] at X3 l3 y3 z3 st3 hQ3
  subst l3 y3 z3
  obtain ⟨rfl, N3q, e3⟩ := hQ3
  have N3 := Fr.app N1 N3q
  obtain ⟨fs, hr, hrun, hended, hW, hsame⟩ := X3.leave (v := some (.int (1 : Int32))) (fun h => by rw [Bd.returns] at h; cases h)
  refine ⟨_, _, pre0 _ ?_, hrun, hended, _, _, rfl, ?_, ⟨_, rfl⟩, hW, hsame.mono (by decide) (by decide)⟩
  · show Steps p.tables e below (s₁.setTop (mkF m 0 #[.val (.int p1), .unset, .unset, .unset] [])) _
    refine XS.iloadN X0.here hx rfl (hb hby at_0) rfl ?_
    show Steps p.tables e below (s₁.setTop (mkF m 1 #[.val (.int p1), .unset, .unset, .unset] [(.int p1)])) _
    refine X0.ldcInt hx hown (mvT hZ (hw _ (List.mem_of_getElem? (i := 0) rfl))) (g := (mkF m 1 #[.val (.int p1), .unset, .unset, .unset] [(.int p1)])) rfl (hb hby at_1) _ ?_
    show Steps p.tables e below (s₁.setTop (mkF m 3 #[.val (.int p1), .unset, .unset, .unset] [(.int (2147483647 : Int32)), (.int p1)])) _
    refine XS.iand X0.here hx rfl (hb hby at_3) rfl ?_
    show Steps p.tables e below (s₁.setTop (mkF m 4 #[.val (.int p1), .unset, .unset, .unset] [(.int (p1 &&& (2147483647 : Int32)))])) _
    refine XS.bipush X0.here hx rfl (hb hby at_4) ?_
    show Steps p.tables e below (s₁.setTop (mkF m 6 #[.val (.int p1), .unset, .unset, .unset] [(.int (6 : Int32)), (.int (p1 &&& (2147483647 : Int32)))])) _
    refine iremM (g := (mkF m 6 #[.val (.int p1), .unset, .unset, .unset] [(.int (6 : Int32)), (.int (p1 &&& (2147483647 : Int32)))])) X0 hx rfl (hb hby at_6) rfl (by decide) ?_
    show Steps p.tables e below (s₁.setTop (mkF m 7 #[.val (.int p1), .unset, .unset, .unset] [(.int ((p1 &&& (2147483647 : Int32)) % (6 : Int32)))])) _
    rewrite [hi]
    show Steps p.tables e below (s₁.setTop (mkF m 7 #[.val (.int p1), .unset, .unset, .unset] [(.int (0 : Int32))])) _
    refine XS.istoreN X0.here hx rfl (hb hby at_7) rfl (l' := #[.val (.int p1), .val (.int (0 : Int32)), .unset, .unset]) rfl ?_
    show Steps p.tables e below (s₁.setTop (mkF m 8 #[.val (.int p1), .val (.int (0 : Int32)), .unset, .unset] [])) _
    refine XS.iloadN X0.here hx rfl (hb hby at_8) rfl ?_
    show Steps p.tables e below (s₁.setTop (mkF m 9 #[.val (.int p1), .val (.int (0 : Int32)), .unset, .unset] [(.int (0 : Int32))])) _
    refine st1 _ ?_
    show Steps p.tables e below (T1.setTop (mkF m 12 #[.val (.int p1), .val (.int (0 : Int32)), .unset, .unset] [(.ref a_IN)])) _
    refine XS.astoreN X1.here hx rfl (hb hby at_12) rfl rfl (l' := #[.val (.int p1), .val (.int (0 : Int32)), .val (.ref a_IN), .unset]) rfl ?_
    show Steps p.tables e below (T1.setTop (mkF m 13 #[.val (.int p1), .val (.int (0 : Int32)), .val (.ref a_IN), .unset] [])) _
    refine XS.aloadN X1.here hx rfl (hb hby at_13) rfl rfl ?_
    show Steps p.tables e below (T1.setTop (mkF m 14 #[.val (.int p1), .val (.int (0 : Int32)), .val (.ref a_IN), .unset] [(.ref a_IN)])) _
    refine st2 _ ?_
    show Steps p.tables e below (T2.setTop (mkF m 17 #[.val (.int p1), .val (.int (0 : Int32)), .val (.ref a_IN), .unset] [(.ref a_IN), (.ref a_IN)])) _
    refine Jvm.RoadKit.acmp (g := (mkF m 17 #[.val (.int p1), .val (.int (0 : Int32)), .val (.ref a_IN), .unset] [(.ref a_IN), (.ref a_IN)])) X2 hx rfl rfl rfl (pc0 := 17) (pc' := 34) (same := true) rfl (hb hby at_17) rfl (decide_eq_true rfl) (by decide) (by decide) ?_
    show Steps p.tables e below (T2.setTop (mkF m 34 #[.val (.int p1), .val (.int (0 : Int32)), .val (.ref a_IN), .unset] [])) _
    refine XS.iconst X2.here hx rfl (hb hby at_34) ?_
    show Steps p.tables e below (T2.setTop (mkF m 35 #[.val (.int p1), .val (.int (0 : Int32)), .val (.ref a_IN), .unset] [(.int (1 : Int32))])) _
    refine XS.goto X2.here hx rfl (pc0 := 35) (pc' := 39) rfl (hb hby at_35) (by decide) (by decide) ?_
    show Steps p.tables e below (T2.setTop (mkF m 39 #[.val (.int p1), .val (.int (0 : Int32)), .val (.ref a_IN), .unset] [(.int (1 : Int32))])) _
    refine XS.istoreN X2.here hx rfl (hb hby at_39) rfl (l' := #[.val (.int p1), .val (.int (0 : Int32)), .val (.ref a_IN), .val (.int (1 : Int32))]) rfl ?_
    show Steps p.tables e below (T2.setTop (mkF m 40 #[.val (.int p1), .val (.int (0 : Int32)), .val (.ref a_IN), .val (.int (1 : Int32))] [])) _
    refine XS.aloadN X2.here hx rfl (hb hby at_40) rfl rfl ?_
    show Steps p.tables e below (T2.setTop (mkF m 41 #[.val (.int p1), .val (.int (0 : Int32)), .val (.ref a_IN), .val (.int (1 : Int32))] [(.ref a_IN)])) _
    refine st3.trans ?_
    show Steps p.tables e below (T3.setTop (mkF m 44 #[.val (.int p1), .val (.int (0 : Int32)), .val (.ref a_IN), .val (.int (1 : Int32))] [(.int (0 : Int32))])) _
    refine XS.iloadN X3.here hx rfl (hb hby at_44) rfl ?_
    show Steps p.tables e below (T3.setTop (mkF m 45 #[.val (.int p1), .val (.int (0 : Int32)), .val (.ref a_IN), .val (.int (1 : Int32))] [(.int (1 : Int32)), (.int (0 : Int32))])) _
    refine XS.ifYes X3.here hx rfl (pc0 := 45) (pc' := 52) rfl (hb hby at_45) rfl (by decide) (by decide) (by decide) ?_
    show Steps p.tables e below (T3.setTop (mkF m 52 #[.val (.int p1), .val (.int (0 : Int32)), .val (.ref a_IN), .val (.int (1 : Int32))] [(.int (0 : Int32))])) _
    refine XS.iconst X3.here hx rfl (hb hby at_52) ?_
    show Steps p.tables e below (T3.setTop (mkF m 53 #[.val (.int p1), .val (.int (0 : Int32)), .val (.ref a_IN), .val (.int (1 : Int32))] [(.int (0 : Int32)), (.int (0 : Int32))])) _
    refine XS.icmpNo X3.here hx rfl (hb hby at_53) rfl (by decide) ?_
    show Steps p.tables e below (T3.setTop (mkF m 56 #[.val (.int p1), .val (.int (0 : Int32)), .val (.ref a_IN), .val (.int (1 : Int32))] [])) _
    refine XS.iconst X3.here hx rfl (hb hby at_56) ?_
    show Steps p.tables e below (T3.setTop (mkF m 57 #[.val (.int p1), .val (.int (0 : Int32)), .val (.ref a_IN), .val (.int (1 : Int32))] [(.int (1 : Int32))])) _
    refine XS.goto X3.here hx rfl (pc0 := 57) (pc' := 61) rfl (hb hby at_57) (by decide) (by decide) ?_
    show Steps p.tables e below (T3.setTop (mkF m 61 #[.val (.int p1), .val (.int (0 : Int32)), .val (.ref a_IN), .val (.int (1 : Int32))] [(.int (1 : Int32))])) _
    exact retN X3 hx (t := .boolean) Bd.returns (by simp) (hb hby at_61) hr
  · show own_Q _ h0 n0 _ T3.heap _
    exact ⟨rfl, N3, e3⟩
set_option maxRecDepth 65536 in
set_option maxHeartbeats 40000000 in
theorem own_law_1 (l : Launch) (Z : State) (a0 : Array Value) (hw : ∀ d ∈ tables_1, d.before a0 Z = true) (ws : List Jvm.Cond) (a_IN a_WORKFLOW_IN a_WORKFLOW_OUT a_DERIVED a_PARAM a_OUT : Addr) (p1 : Int32) (h0 : Heap) (n0 : Nat) (hp : own_Pin Z h0 a_IN a_WORKFLOW_IN a_WORKFLOW_OUT a_DERIVED a_PARAM a_OUT) (hi : ((p1 &&& (2147483647 : Int32)) % (6 : Int32)) = (1 : Int32)) :
    MetFree l x (head1 (Jvm.Cond.code x code maxLocals ret :: ws) room_1) (fun a U => a = #[(.int p1)] ∧ Z.Warmed39 U.vm ∧ U.heap = h0) (fun _ _ _ _ _ => True) (fun _ U o U' => ∃ v L, o = .returned v ∧ own_Q (.int (1 : Int32)) h0 n0 v U'.heap L ∧ FrameEnd U o U' L room_1.cells room_1.slots) := by
  have hp' := hp
  obtain ⟨S_IN, S_WORKFLOW_IN, S_WORKFLOW_OUT, S_DERIVED, S_PARAM, S_OUT, E_IN, E_WORKFLOW_IN, E_WORKFLOW_OUT, E_DERIVED, E_PARAM, E_OUT, n_IN_WORKFLOW_IN, n_IN_WORKFLOW_OUT, n_IN_DERIVED, n_IN_PARAM, n_IN_OUT, n_WORKFLOW_IN_WORKFLOW_OUT, n_WORKFLOW_IN_DERIVED, n_WORKFLOW_IN_PARAM, n_WORKFLOW_IN_OUT, n_WORKFLOW_OUT_DERIVED, n_WORKFLOW_OUT_PARAM, n_WORKFLOW_OUT_OUT, n_DERIVED_PARAM, n_DERIVED_OUT, n_PARAM_OUT⟩ := hp'
  refine MetFree.of_bodySF (plainFor_of_name own_pn0) hisR ?_
  intro p e s m args below meth c s₁ Bd hml0 hP hK
  obtain ⟨rfl, hZ, hh⟩ := hP
  have hx := Bd.exec
  have hby := Bd.bytes
  have hml : c.maxLocals = 4 := hml0
  have hown : s.vm.findClass "com/example/covell/covell/model/PortRoleIsWorkflowPortPinLaw" = some m.cls := findClass_of_methodNamed Bd.named
  have X0 : Stand p l e room_1 s m #[(.int p1)] below meth c s₁ [] 0 0 := Stand.of_body Bd
  have e0 : s₁.heap = h0 := by rw [← hh, Bd.state]; rfl
  have N0 := Fr.nil n0
  have pre0 : ∀ t, Steps p.tables e below (s₁.setTop (mkF m 0 #[.val (.int p1), .unset, .unset, .unset] [])) t → Steps p.tables e below (s₁.setTop (entryFrame m #[(.int p1)] maxLocals)) t := fun t k => castTop (by first | (simp [entryFrame, mkF, argsToLocals, Value.category, maxLocals]; done) | rfl) k
  obtain ⟨_, _, ⟨T1, L1, k1, n1⟩, -, X1, ⟨Lc1, hQ1, l1, y1, z1⟩, st1⟩ := Jvm.LawKit.callS X0 hx (y := (⟨"com/example/covell/covell/model/PortRoleIsWorkflowPortPinLaw", "pick", "(I)Lcom/example/covell/covell/model/PortRole;"⟩ : MethodName)) hown (mvT hZ (hw _ (List.mem_of_getElem? (i := 1) rfl))) (mvT hZ (hw _ (List.mem_of_getElem? (i := 2) rfl))) (mvT hZ (hw _ (List.mem_of_getElem? (i := 3) rfl))) (mvT hZ (hw _ (List.mem_of_getElem? (i := 4) rfl))) (by decide) (backOf (W := 0) (own_b1_1 l Z a0 hw [] a_IN a_WORKFLOW_IN a_WORKFLOW_OUT a_DERIVED a_PARAM a_OUT  h0 n0 hp) hZ (hw _ (List.mem_of_getElem? (i := 4) rfl)) (hw _ (List.mem_of_getElem? (i := 3) rfl)) (by decide) (by decide)) (g := (mkF m 9 #[.val (.int p1), .val (.int (1 : Int32)), .unset, .unset] [(.int (1 : Int32))])) rfl (by rw [hml]; rfl) (argsL := [(.int (1 : Int32))]) (rest := []) (lenOf own_pd0 rfl) rfl (by show 2 * 0 + _ ≤ _; exact Nat.le_of_eq rfl) (hb hby at_9) (fun _ _ => ⟨rfl, e0, (by decide : 0 + 0 ≤ _), (by decide : 0 + 0 ≤ _)⟩)
  dsimp only [Pt.U, Pt.locs, Pt.cells, Pt.slots] at X1 l1 y1 z1 st1 hQ1
  subst l1 y1 z1
  obtain ⟨rfl, N1q, e1⟩ := hQ1
  have N1 := Fr.app N0 N1q
  obtain ⟨T2, X2, e2, st2⟩ := getS X1 hx hZ hown (host := "") (hw _ (List.mem_of_getElem? (i := 5) rfl)) Via.refl e1 S_IN (g := (mkF m 14 #[.val (.int p1), .val (.int (1 : Int32)), .val (.ref a_PARAM), .unset] [(.ref a_PARAM)])) rfl (hb hby at_14)
  obtain ⟨T3, X3, e3, st3⟩ := getS X2 hx hZ hown (host := "") (hw _ (List.mem_of_getElem? (i := 20) rfl)) Via.refl e2 S_PARAM (g := (mkF m 21 #[.val (.int p1), .val (.int (1 : Int32)), .val (.ref a_PARAM), .unset] [(.ref a_PARAM)])) rfl (hb hby at_21)
  obtain ⟨cq4, kq4, q4a, q4b, q4c⟩ := isOf hZ e3 E_PARAM
  obtain ⟨_, _, ⟨T4, L4, k4, n4⟩, -, X4, ⟨Lc4, hQ4, l4, y4, z4⟩, st4⟩ := X3.virtualBack hx (y := (⟨"com/example/covell/covell/model/PortRole", "isWorkflowPort", "()Z"⟩ : MethodName)) (z := (⟨"com/example/covell/covell/model/PortRole", "isWorkflowPort", "()Z"⟩ : MethodName)) hown (mvT hZ (hw _ (List.mem_of_getElem? (i := 8) rfl))) (mvT hZ (hw _ (List.mem_of_getElem? (i := 9) rfl))) (notFace_of_selects (args := #[]) (mvT hZ (hw _ (List.mem_of_getElem? (i := 11) rfl)))) (mvT hZ (hw _ (List.mem_of_getElem? (i := 11) rfl))) (mvT hZ (hw _ (List.mem_of_getElem? (i := 10) rfl))) (by decide) (backOf (W := 0) (own_b2_1 l Z a0 hw [] a_IN a_WORKFLOW_IN a_WORKFLOW_OUT a_DERIVED a_PARAM a_OUT  h0 n0 hp) hZ (hw _ (List.mem_of_getElem? (i := 12) rfl)) (hw _ (List.mem_of_getElem? (i := 6) rfl)) (by decide) (by decide)) q4a q4c (g := (mkF m 41 #[.val (.int p1), .val (.int (1 : Int32)), .val (.ref a_PARAM), .val (.int (1 : Int32))] [(.ref a_PARAM)])) rfl (by rw [hml]; rfl) (Steps.refl _) (argsL := []) (rest := []) (lenOf own_pd1 rfl) rfl (by show 2 * 0 + _ ≤ _; exact Nat.le_of_eq rfl) (hb hby at_41) (fun _ _ => ⟨rfl, e3, (by decide : 0 + 0 ≤ _), (by decide : 0 + 0 ≤ _)⟩)
  dsimp only [Pt.U, Pt.locs, Pt.cells, Pt.slots] at X4 l4 y4 z4 st4 hQ4
  subst l4 y4 z4
  obtain ⟨rfl, N4q, e4⟩ := hQ4
  have N4 := Fr.app N1 N4q
  obtain ⟨fs, hr, hrun, hended, hW, hsame⟩ := X4.leave (v := some (.int (1 : Int32))) (fun h => by rw [Bd.returns] at h; cases h)
  refine ⟨_, _, pre0 _ ?_, hrun, hended, _, _, rfl, ?_, ⟨_, rfl⟩, hW, hsame.mono (by decide) (by decide)⟩
  · show Steps p.tables e below (s₁.setTop (mkF m 0 #[.val (.int p1), .unset, .unset, .unset] [])) _
    refine XS.iloadN X0.here hx rfl (hb hby at_0) rfl ?_
    show Steps p.tables e below (s₁.setTop (mkF m 1 #[.val (.int p1), .unset, .unset, .unset] [(.int p1)])) _
    refine X0.ldcInt hx hown (mvT hZ (hw _ (List.mem_of_getElem? (i := 0) rfl))) (g := (mkF m 1 #[.val (.int p1), .unset, .unset, .unset] [(.int p1)])) rfl (hb hby at_1) _ ?_
    show Steps p.tables e below (s₁.setTop (mkF m 3 #[.val (.int p1), .unset, .unset, .unset] [(.int (2147483647 : Int32)), (.int p1)])) _
    refine XS.iand X0.here hx rfl (hb hby at_3) rfl ?_
    show Steps p.tables e below (s₁.setTop (mkF m 4 #[.val (.int p1), .unset, .unset, .unset] [(.int (p1 &&& (2147483647 : Int32)))])) _
    refine XS.bipush X0.here hx rfl (hb hby at_4) ?_
    show Steps p.tables e below (s₁.setTop (mkF m 6 #[.val (.int p1), .unset, .unset, .unset] [(.int (6 : Int32)), (.int (p1 &&& (2147483647 : Int32)))])) _
    refine iremM (g := (mkF m 6 #[.val (.int p1), .unset, .unset, .unset] [(.int (6 : Int32)), (.int (p1 &&& (2147483647 : Int32)))])) X0 hx rfl (hb hby at_6) rfl (by decide) ?_
    show Steps p.tables e below (s₁.setTop (mkF m 7 #[.val (.int p1), .unset, .unset, .unset] [(.int ((p1 &&& (2147483647 : Int32)) % (6 : Int32)))])) _
    rewrite [hi]
    show Steps p.tables e below (s₁.setTop (mkF m 7 #[.val (.int p1), .unset, .unset, .unset] [(.int (1 : Int32))])) _
    refine XS.istoreN X0.here hx rfl (hb hby at_7) rfl (l' := #[.val (.int p1), .val (.int (1 : Int32)), .unset, .unset]) rfl ?_
    show Steps p.tables e below (s₁.setTop (mkF m 8 #[.val (.int p1), .val (.int (1 : Int32)), .unset, .unset] [])) _
    refine XS.iloadN X0.here hx rfl (hb hby at_8) rfl ?_
    show Steps p.tables e below (s₁.setTop (mkF m 9 #[.val (.int p1), .val (.int (1 : Int32)), .unset, .unset] [(.int (1 : Int32))])) _
    refine st1 _ ?_
    show Steps p.tables e below (T1.setTop (mkF m 12 #[.val (.int p1), .val (.int (1 : Int32)), .unset, .unset] [(.ref a_PARAM)])) _
    refine XS.astoreN X1.here hx rfl (hb hby at_12) rfl rfl (l' := #[.val (.int p1), .val (.int (1 : Int32)), .val (.ref a_PARAM), .unset]) rfl ?_
    show Steps p.tables e below (T1.setTop (mkF m 13 #[.val (.int p1), .val (.int (1 : Int32)), .val (.ref a_PARAM), .unset] [])) _
    refine XS.aloadN X1.here hx rfl (hb hby at_13) rfl rfl ?_
    show Steps p.tables e below (T1.setTop (mkF m 14 #[.val (.int p1), .val (.int (1 : Int32)), .val (.ref a_PARAM), .unset] [(.ref a_PARAM)])) _
    refine st2 _ ?_
    show Steps p.tables e below (T2.setTop (mkF m 17 #[.val (.int p1), .val (.int (1 : Int32)), .val (.ref a_PARAM), .unset] [(.ref a_IN), (.ref a_PARAM)])) _
    refine Jvm.RoadKit.acmp (g := (mkF m 17 #[.val (.int p1), .val (.int (1 : Int32)), .val (.ref a_PARAM), .unset] [(.ref a_IN), (.ref a_PARAM)])) X2 hx rfl rfl rfl (pc0 := 17) (pc' := 20) (same := false) rfl (hb hby at_17) rfl (decide_eq_false fun q => n_IN_PARAM (Value.ref.inj q).symm) (by decide) (by decide) ?_
    show Steps p.tables e below (T2.setTop (mkF m 20 #[.val (.int p1), .val (.int (1 : Int32)), .val (.ref a_PARAM), .unset] [])) _
    refine XS.aloadN X2.here hx rfl (hb hby at_20) rfl rfl ?_
    show Steps p.tables e below (T2.setTop (mkF m 21 #[.val (.int p1), .val (.int (1 : Int32)), .val (.ref a_PARAM), .unset] [(.ref a_PARAM)])) _
    refine st3 _ ?_
    show Steps p.tables e below (T3.setTop (mkF m 24 #[.val (.int p1), .val (.int (1 : Int32)), .val (.ref a_PARAM), .unset] [(.ref a_PARAM), (.ref a_PARAM)])) _
    refine Jvm.RoadKit.acmp (g := (mkF m 24 #[.val (.int p1), .val (.int (1 : Int32)), .val (.ref a_PARAM), .unset] [(.ref a_PARAM), (.ref a_PARAM)])) X3 hx rfl rfl rfl (pc0 := 24) (pc' := 34) (same := true) rfl (hb hby at_24) rfl (decide_eq_true rfl) (by decide) (by decide) ?_
    show Steps p.tables e below (T3.setTop (mkF m 34 #[.val (.int p1), .val (.int (1 : Int32)), .val (.ref a_PARAM), .unset] [])) _
    refine XS.iconst X3.here hx rfl (hb hby at_34) ?_
    show Steps p.tables e below (T3.setTop (mkF m 35 #[.val (.int p1), .val (.int (1 : Int32)), .val (.ref a_PARAM), .unset] [(.int (1 : Int32))])) _
    refine XS.goto X3.here hx rfl (pc0 := 35) (pc' := 39) rfl (hb hby at_35) (by decide) (by decide) ?_
    show Steps p.tables e below (T3.setTop (mkF m 39 #[.val (.int p1), .val (.int (1 : Int32)), .val (.ref a_PARAM), .unset] [(.int (1 : Int32))])) _
    refine XS.istoreN X3.here hx rfl (hb hby at_39) rfl (l' := #[.val (.int p1), .val (.int (1 : Int32)), .val (.ref a_PARAM), .val (.int (1 : Int32))]) rfl ?_
    show Steps p.tables e below (T3.setTop (mkF m 40 #[.val (.int p1), .val (.int (1 : Int32)), .val (.ref a_PARAM), .val (.int (1 : Int32))] [])) _
    refine XS.aloadN X3.here hx rfl (hb hby at_40) rfl rfl ?_
    show Steps p.tables e below (T3.setTop (mkF m 41 #[.val (.int p1), .val (.int (1 : Int32)), .val (.ref a_PARAM), .val (.int (1 : Int32))] [(.ref a_PARAM)])) _
    refine st4.trans ?_
    show Steps p.tables e below (T4.setTop (mkF m 44 #[.val (.int p1), .val (.int (1 : Int32)), .val (.ref a_PARAM), .val (.int (1 : Int32))] [(.int (0 : Int32))])) _
    refine XS.iloadN X4.here hx rfl (hb hby at_44) rfl ?_
    show Steps p.tables e below (T4.setTop (mkF m 45 #[.val (.int p1), .val (.int (1 : Int32)), .val (.ref a_PARAM), .val (.int (1 : Int32))] [(.int (1 : Int32)), (.int (0 : Int32))])) _
    refine XS.ifYes X4.here hx rfl (pc0 := 45) (pc' := 52) rfl (hb hby at_45) rfl (by decide) (by decide) (by decide) ?_
    show Steps p.tables e below (T4.setTop (mkF m 52 #[.val (.int p1), .val (.int (1 : Int32)), .val (.ref a_PARAM), .val (.int (1 : Int32))] [(.int (0 : Int32))])) _
    refine XS.iconst X4.here hx rfl (hb hby at_52) ?_
    show Steps p.tables e below (T4.setTop (mkF m 53 #[.val (.int p1), .val (.int (1 : Int32)), .val (.ref a_PARAM), .val (.int (1 : Int32))] [(.int (0 : Int32)), (.int (0 : Int32))])) _
    refine XS.icmpNo X4.here hx rfl (hb hby at_53) rfl (by decide) ?_
    show Steps p.tables e below (T4.setTop (mkF m 56 #[.val (.int p1), .val (.int (1 : Int32)), .val (.ref a_PARAM), .val (.int (1 : Int32))] [])) _
    refine XS.iconst X4.here hx rfl (hb hby at_56) ?_
    show Steps p.tables e below (T4.setTop (mkF m 57 #[.val (.int p1), .val (.int (1 : Int32)), .val (.ref a_PARAM), .val (.int (1 : Int32))] [(.int (1 : Int32))])) _
    refine XS.goto X4.here hx rfl (pc0 := 57) (pc' := 61) rfl (hb hby at_57) (by decide) (by decide) ?_
    show Steps p.tables e below (T4.setTop (mkF m 61 #[.val (.int p1), .val (.int (1 : Int32)), .val (.ref a_PARAM), .val (.int (1 : Int32))] [(.int (1 : Int32))])) _
    exact retN X4 hx (t := .boolean) Bd.returns (by simp) (hb hby at_61) hr
  · show own_Q _ h0 n0 _ T4.heap _
    exact ⟨rfl, N4, e4⟩
set_option maxRecDepth 65536 in
set_option maxHeartbeats 40000000 in
theorem own_law_2 (l : Launch) (Z : State) (a0 : Array Value) (hw : ∀ d ∈ tables_1, d.before a0 Z = true) (ws : List Jvm.Cond) (a_IN a_WORKFLOW_IN a_WORKFLOW_OUT a_DERIVED a_PARAM a_OUT : Addr) (p1 : Int32) (h0 : Heap) (n0 : Nat) (hp : own_Pin Z h0 a_IN a_WORKFLOW_IN a_WORKFLOW_OUT a_DERIVED a_PARAM a_OUT) (hi : ((p1 &&& (2147483647 : Int32)) % (6 : Int32)) = (2 : Int32)) :
    MetFree l x (head1 (Jvm.Cond.code x code maxLocals ret :: ws) room_1) (fun a U => a = #[(.int p1)] ∧ Z.Warmed39 U.vm ∧ U.heap = h0) (fun _ _ _ _ _ => True) (fun _ U o U' => ∃ v L, o = .returned v ∧ own_Q (.int (1 : Int32)) h0 n0 v U'.heap L ∧ FrameEnd U o U' L room_1.cells room_1.slots) := by
  have hp' := hp
  obtain ⟨S_IN, S_WORKFLOW_IN, S_WORKFLOW_OUT, S_DERIVED, S_PARAM, S_OUT, E_IN, E_WORKFLOW_IN, E_WORKFLOW_OUT, E_DERIVED, E_PARAM, E_OUT, n_IN_WORKFLOW_IN, n_IN_WORKFLOW_OUT, n_IN_DERIVED, n_IN_PARAM, n_IN_OUT, n_WORKFLOW_IN_WORKFLOW_OUT, n_WORKFLOW_IN_DERIVED, n_WORKFLOW_IN_PARAM, n_WORKFLOW_IN_OUT, n_WORKFLOW_OUT_DERIVED, n_WORKFLOW_OUT_PARAM, n_WORKFLOW_OUT_OUT, n_DERIVED_PARAM, n_DERIVED_OUT, n_PARAM_OUT⟩ := hp'
  refine MetFree.of_bodySF (plainFor_of_name own_pn0) hisR ?_
  intro p e s m args below meth c s₁ Bd hml0 hP hK
  obtain ⟨rfl, hZ, hh⟩ := hP
  have hx := Bd.exec
  have hby := Bd.bytes
  have hml : c.maxLocals = 4 := hml0
  have hown : s.vm.findClass "com/example/covell/covell/model/PortRoleIsWorkflowPortPinLaw" = some m.cls := findClass_of_methodNamed Bd.named
  have X0 : Stand p l e room_1 s m #[(.int p1)] below meth c s₁ [] 0 0 := Stand.of_body Bd
  have e0 : s₁.heap = h0 := by rw [← hh, Bd.state]; rfl
  have N0 := Fr.nil n0
  have pre0 : ∀ t, Steps p.tables e below (s₁.setTop (mkF m 0 #[.val (.int p1), .unset, .unset, .unset] [])) t → Steps p.tables e below (s₁.setTop (entryFrame m #[(.int p1)] maxLocals)) t := fun t k => castTop (by first | (simp [entryFrame, mkF, argsToLocals, Value.category, maxLocals]; done) | rfl) k
  obtain ⟨_, _, ⟨T1, L1, k1, n1⟩, -, X1, ⟨Lc1, hQ1, l1, y1, z1⟩, st1⟩ := Jvm.LawKit.callS X0 hx (y := (⟨"com/example/covell/covell/model/PortRoleIsWorkflowPortPinLaw", "pick", "(I)Lcom/example/covell/covell/model/PortRole;"⟩ : MethodName)) hown (mvT hZ (hw _ (List.mem_of_getElem? (i := 1) rfl))) (mvT hZ (hw _ (List.mem_of_getElem? (i := 2) rfl))) (mvT hZ (hw _ (List.mem_of_getElem? (i := 3) rfl))) (mvT hZ (hw _ (List.mem_of_getElem? (i := 4) rfl))) (by decide) (backOf (W := 0) (own_b1_2 l Z a0 hw [] a_IN a_WORKFLOW_IN a_WORKFLOW_OUT a_DERIVED a_PARAM a_OUT  h0 n0 hp) hZ (hw _ (List.mem_of_getElem? (i := 4) rfl)) (hw _ (List.mem_of_getElem? (i := 3) rfl)) (by decide) (by decide)) (g := (mkF m 9 #[.val (.int p1), .val (.int (2 : Int32)), .unset, .unset] [(.int (2 : Int32))])) rfl (by rw [hml]; rfl) (argsL := [(.int (2 : Int32))]) (rest := []) (lenOf own_pd0 rfl) rfl (by show 2 * 0 + _ ≤ _; exact Nat.le_of_eq rfl) (hb hby at_9) (fun _ _ => ⟨rfl, e0, (by decide : 0 + 0 ≤ _), (by decide : 0 + 0 ≤ _)⟩)
  dsimp only [Pt.U, Pt.locs, Pt.cells, Pt.slots] at X1 l1 y1 z1 st1 hQ1
  subst l1 y1 z1
  obtain ⟨rfl, N1q, e1⟩ := hQ1
  have N1 := Fr.app N0 N1q
  obtain ⟨T2, X2, e2, st2⟩ := getS X1 hx hZ hown (host := "") (hw _ (List.mem_of_getElem? (i := 5) rfl)) Via.refl e1 S_IN (g := (mkF m 14 #[.val (.int p1), .val (.int (2 : Int32)), .val (.ref a_OUT), .unset] [(.ref a_OUT)])) rfl (hb hby at_14)
  obtain ⟨T3, X3, e3, st3⟩ := getS X2 hx hZ hown (host := "") (hw _ (List.mem_of_getElem? (i := 20) rfl)) Via.refl e2 S_PARAM (g := (mkF m 21 #[.val (.int p1), .val (.int (2 : Int32)), .val (.ref a_OUT), .unset] [(.ref a_OUT)])) rfl (hb hby at_21)
  obtain ⟨T4, X4, e4, st4⟩ := getS X3 hx hZ hown (host := "") (hw _ (List.mem_of_getElem? (i := 22) rfl)) Via.refl e3 S_OUT (g := (mkF m 28 #[.val (.int p1), .val (.int (2 : Int32)), .val (.ref a_OUT), .unset] [(.ref a_OUT)])) rfl (hb hby at_28)
  obtain ⟨cq5, kq5, q5a, q5b, q5c⟩ := isOf hZ e4 E_OUT
  obtain ⟨_, _, ⟨T5, L5, k5, n5⟩, -, X5, ⟨Lc5, hQ5, l5, y5, z5⟩, st5⟩ := X4.virtualBack hx (y := (⟨"com/example/covell/covell/model/PortRole", "isWorkflowPort", "()Z"⟩ : MethodName)) (z := (⟨"com/example/covell/covell/model/PortRole", "isWorkflowPort", "()Z"⟩ : MethodName)) hown (mvT hZ (hw _ (List.mem_of_getElem? (i := 8) rfl))) (mvT hZ (hw _ (List.mem_of_getElem? (i := 9) rfl))) (notFace_of_selects (args := #[]) (mvT hZ (hw _ (List.mem_of_getElem? (i := 11) rfl)))) (mvT hZ (hw _ (List.mem_of_getElem? (i := 11) rfl))) (mvT hZ (hw _ (List.mem_of_getElem? (i := 10) rfl))) (by decide) (backOf (W := 0) (own_b2_2 l Z a0 hw [] a_IN a_WORKFLOW_IN a_WORKFLOW_OUT a_DERIVED a_PARAM a_OUT  h0 n0 hp) hZ (hw _ (List.mem_of_getElem? (i := 12) rfl)) (hw _ (List.mem_of_getElem? (i := 6) rfl)) (by decide) (by decide)) q5a q5c (g := (mkF m 41 #[.val (.int p1), .val (.int (2 : Int32)), .val (.ref a_OUT), .val (.int (1 : Int32))] [(.ref a_OUT)])) rfl (by rw [hml]; rfl) (Steps.refl _) (argsL := []) (rest := []) (lenOf own_pd1 rfl) rfl (by show 2 * 0 + _ ≤ _; exact Nat.le_of_eq rfl) (hb hby at_41) (fun _ _ => ⟨rfl, e4, (by decide : 0 + 0 ≤ _), (by decide : 0 + 0 ≤ _)⟩)
  dsimp only [Pt.U, Pt.locs, Pt.cells, Pt.slots] at X5 l5 y5 z5 st5 hQ5
  subst l5 y5 z5
  obtain ⟨rfl, N5q, e5⟩ := hQ5
  have N5 := Fr.app N1 N5q
  obtain ⟨fs, hr, hrun, hended, hW, hsame⟩ := X5.leave (v := some (.int (1 : Int32))) (fun h => by rw [Bd.returns] at h; cases h)
  refine ⟨_, _, pre0 _ ?_, hrun, hended, _, _, rfl, ?_, ⟨_, rfl⟩, hW, hsame.mono (by decide) (by decide)⟩
  · show Steps p.tables e below (s₁.setTop (mkF m 0 #[.val (.int p1), .unset, .unset, .unset] [])) _
    refine XS.iloadN X0.here hx rfl (hb hby at_0) rfl ?_
    show Steps p.tables e below (s₁.setTop (mkF m 1 #[.val (.int p1), .unset, .unset, .unset] [(.int p1)])) _
    refine X0.ldcInt hx hown (mvT hZ (hw _ (List.mem_of_getElem? (i := 0) rfl))) (g := (mkF m 1 #[.val (.int p1), .unset, .unset, .unset] [(.int p1)])) rfl (hb hby at_1) _ ?_
    show Steps p.tables e below (s₁.setTop (mkF m 3 #[.val (.int p1), .unset, .unset, .unset] [(.int (2147483647 : Int32)), (.int p1)])) _
    refine XS.iand X0.here hx rfl (hb hby at_3) rfl ?_
    show Steps p.tables e below (s₁.setTop (mkF m 4 #[.val (.int p1), .unset, .unset, .unset] [(.int (p1 &&& (2147483647 : Int32)))])) _
    refine XS.bipush X0.here hx rfl (hb hby at_4) ?_
    show Steps p.tables e below (s₁.setTop (mkF m 6 #[.val (.int p1), .unset, .unset, .unset] [(.int (6 : Int32)), (.int (p1 &&& (2147483647 : Int32)))])) _
    refine iremM (g := (mkF m 6 #[.val (.int p1), .unset, .unset, .unset] [(.int (6 : Int32)), (.int (p1 &&& (2147483647 : Int32)))])) X0 hx rfl (hb hby at_6) rfl (by decide) ?_
    show Steps p.tables e below (s₁.setTop (mkF m 7 #[.val (.int p1), .unset, .unset, .unset] [(.int ((p1 &&& (2147483647 : Int32)) % (6 : Int32)))])) _
    rewrite [hi]
    show Steps p.tables e below (s₁.setTop (mkF m 7 #[.val (.int p1), .unset, .unset, .unset] [(.int (2 : Int32))])) _
    refine XS.istoreN X0.here hx rfl (hb hby at_7) rfl (l' := #[.val (.int p1), .val (.int (2 : Int32)), .unset, .unset]) rfl ?_
    show Steps p.tables e below (s₁.setTop (mkF m 8 #[.val (.int p1), .val (.int (2 : Int32)), .unset, .unset] [])) _
    refine XS.iloadN X0.here hx rfl (hb hby at_8) rfl ?_
    show Steps p.tables e below (s₁.setTop (mkF m 9 #[.val (.int p1), .val (.int (2 : Int32)), .unset, .unset] [(.int (2 : Int32))])) _
    refine st1 _ ?_
    show Steps p.tables e below (T1.setTop (mkF m 12 #[.val (.int p1), .val (.int (2 : Int32)), .unset, .unset] [(.ref a_OUT)])) _
    refine XS.astoreN X1.here hx rfl (hb hby at_12) rfl rfl (l' := #[.val (.int p1), .val (.int (2 : Int32)), .val (.ref a_OUT), .unset]) rfl ?_
    show Steps p.tables e below (T1.setTop (mkF m 13 #[.val (.int p1), .val (.int (2 : Int32)), .val (.ref a_OUT), .unset] [])) _
    refine XS.aloadN X1.here hx rfl (hb hby at_13) rfl rfl ?_
    show Steps p.tables e below (T1.setTop (mkF m 14 #[.val (.int p1), .val (.int (2 : Int32)), .val (.ref a_OUT), .unset] [(.ref a_OUT)])) _
    refine st2 _ ?_
    show Steps p.tables e below (T2.setTop (mkF m 17 #[.val (.int p1), .val (.int (2 : Int32)), .val (.ref a_OUT), .unset] [(.ref a_IN), (.ref a_OUT)])) _
    refine Jvm.RoadKit.acmp (g := (mkF m 17 #[.val (.int p1), .val (.int (2 : Int32)), .val (.ref a_OUT), .unset] [(.ref a_IN), (.ref a_OUT)])) X2 hx rfl rfl rfl (pc0 := 17) (pc' := 20) (same := false) rfl (hb hby at_17) rfl (decide_eq_false fun q => n_IN_OUT (Value.ref.inj q).symm) (by decide) (by decide) ?_
    show Steps p.tables e below (T2.setTop (mkF m 20 #[.val (.int p1), .val (.int (2 : Int32)), .val (.ref a_OUT), .unset] [])) _
    refine XS.aloadN X2.here hx rfl (hb hby at_20) rfl rfl ?_
    show Steps p.tables e below (T2.setTop (mkF m 21 #[.val (.int p1), .val (.int (2 : Int32)), .val (.ref a_OUT), .unset] [(.ref a_OUT)])) _
    refine st3 _ ?_
    show Steps p.tables e below (T3.setTop (mkF m 24 #[.val (.int p1), .val (.int (2 : Int32)), .val (.ref a_OUT), .unset] [(.ref a_PARAM), (.ref a_OUT)])) _
    refine Jvm.RoadKit.acmp (g := (mkF m 24 #[.val (.int p1), .val (.int (2 : Int32)), .val (.ref a_OUT), .unset] [(.ref a_PARAM), (.ref a_OUT)])) X3 hx rfl rfl rfl (pc0 := 24) (pc' := 27) (same := false) rfl (hb hby at_24) rfl (decide_eq_false fun q => n_PARAM_OUT (Value.ref.inj q).symm) (by decide) (by decide) ?_
    show Steps p.tables e below (T3.setTop (mkF m 27 #[.val (.int p1), .val (.int (2 : Int32)), .val (.ref a_OUT), .unset] [])) _
    refine XS.aloadN X3.here hx rfl (hb hby at_27) rfl rfl ?_
    show Steps p.tables e below (T3.setTop (mkF m 28 #[.val (.int p1), .val (.int (2 : Int32)), .val (.ref a_OUT), .unset] [(.ref a_OUT)])) _
    refine st4 _ ?_
    show Steps p.tables e below (T4.setTop (mkF m 31 #[.val (.int p1), .val (.int (2 : Int32)), .val (.ref a_OUT), .unset] [(.ref a_OUT), (.ref a_OUT)])) _
    refine Jvm.RoadKit.acmp (g := (mkF m 31 #[.val (.int p1), .val (.int (2 : Int32)), .val (.ref a_OUT), .unset] [(.ref a_OUT), (.ref a_OUT)])) X4 hx rfl rfl rfl (pc0 := 31) (pc' := 34) (same := true) rfl (hb hby at_31) rfl (decide_eq_true rfl) (by decide) (by decide) ?_
    show Steps p.tables e below (T4.setTop (mkF m 34 #[.val (.int p1), .val (.int (2 : Int32)), .val (.ref a_OUT), .unset] [])) _
    refine XS.iconst X4.here hx rfl (hb hby at_34) ?_
    show Steps p.tables e below (T4.setTop (mkF m 35 #[.val (.int p1), .val (.int (2 : Int32)), .val (.ref a_OUT), .unset] [(.int (1 : Int32))])) _
    refine XS.goto X4.here hx rfl (pc0 := 35) (pc' := 39) rfl (hb hby at_35) (by decide) (by decide) ?_
    show Steps p.tables e below (T4.setTop (mkF m 39 #[.val (.int p1), .val (.int (2 : Int32)), .val (.ref a_OUT), .unset] [(.int (1 : Int32))])) _
    refine XS.istoreN X4.here hx rfl (hb hby at_39) rfl (l' := #[.val (.int p1), .val (.int (2 : Int32)), .val (.ref a_OUT), .val (.int (1 : Int32))]) rfl ?_
    show Steps p.tables e below (T4.setTop (mkF m 40 #[.val (.int p1), .val (.int (2 : Int32)), .val (.ref a_OUT), .val (.int (1 : Int32))] [])) _
    refine XS.aloadN X4.here hx rfl (hb hby at_40) rfl rfl ?_
    show Steps p.tables e below (T4.setTop (mkF m 41 #[.val (.int p1), .val (.int (2 : Int32)), .val (.ref a_OUT), .val (.int (1 : Int32))] [(.ref a_OUT)])) _
    refine st5.trans ?_
    show Steps p.tables e below (T5.setTop (mkF m 44 #[.val (.int p1), .val (.int (2 : Int32)), .val (.ref a_OUT), .val (.int (1 : Int32))] [(.int (0 : Int32))])) _
    refine XS.iloadN X5.here hx rfl (hb hby at_44) rfl ?_
    show Steps p.tables e below (T5.setTop (mkF m 45 #[.val (.int p1), .val (.int (2 : Int32)), .val (.ref a_OUT), .val (.int (1 : Int32))] [(.int (1 : Int32)), (.int (0 : Int32))])) _
    refine XS.ifYes X5.here hx rfl (pc0 := 45) (pc' := 52) rfl (hb hby at_45) rfl (by decide) (by decide) (by decide) ?_
    show Steps p.tables e below (T5.setTop (mkF m 52 #[.val (.int p1), .val (.int (2 : Int32)), .val (.ref a_OUT), .val (.int (1 : Int32))] [(.int (0 : Int32))])) _
    refine XS.iconst X5.here hx rfl (hb hby at_52) ?_
    show Steps p.tables e below (T5.setTop (mkF m 53 #[.val (.int p1), .val (.int (2 : Int32)), .val (.ref a_OUT), .val (.int (1 : Int32))] [(.int (0 : Int32)), (.int (0 : Int32))])) _
    refine XS.icmpNo X5.here hx rfl (hb hby at_53) rfl (by decide) ?_
    show Steps p.tables e below (T5.setTop (mkF m 56 #[.val (.int p1), .val (.int (2 : Int32)), .val (.ref a_OUT), .val (.int (1 : Int32))] [])) _
    refine XS.iconst X5.here hx rfl (hb hby at_56) ?_
    show Steps p.tables e below (T5.setTop (mkF m 57 #[.val (.int p1), .val (.int (2 : Int32)), .val (.ref a_OUT), .val (.int (1 : Int32))] [(.int (1 : Int32))])) _
    refine XS.goto X5.here hx rfl (pc0 := 57) (pc' := 61) rfl (hb hby at_57) (by decide) (by decide) ?_
    show Steps p.tables e below (T5.setTop (mkF m 61 #[.val (.int p1), .val (.int (2 : Int32)), .val (.ref a_OUT), .val (.int (1 : Int32))] [(.int (1 : Int32))])) _
    exact retN X5 hx (t := .boolean) Bd.returns (by simp) (hb hby at_61) hr
  · show own_Q _ h0 n0 _ T5.heap _
    exact ⟨rfl, N5, e5⟩
set_option maxRecDepth 65536 in
set_option maxHeartbeats 40000000 in
theorem own_law_3 (l : Launch) (Z : State) (a0 : Array Value) (hw : ∀ d ∈ tables_1, d.before a0 Z = true) (ws : List Jvm.Cond) (a_IN a_WORKFLOW_IN a_WORKFLOW_OUT a_DERIVED a_PARAM a_OUT : Addr) (p1 : Int32) (h0 : Heap) (n0 : Nat) (hp : own_Pin Z h0 a_IN a_WORKFLOW_IN a_WORKFLOW_OUT a_DERIVED a_PARAM a_OUT) (hi : ((p1 &&& (2147483647 : Int32)) % (6 : Int32)) = (3 : Int32)) :
    MetFree l x (head1 (Jvm.Cond.code x code maxLocals ret :: ws) room_1) (fun a U => a = #[(.int p1)] ∧ Z.Warmed39 U.vm ∧ U.heap = h0) (fun _ _ _ _ _ => True) (fun _ U o U' => ∃ v L, o = .returned v ∧ own_Q (.int (1 : Int32)) h0 n0 v U'.heap L ∧ FrameEnd U o U' L room_1.cells room_1.slots) := by
  have hp' := hp
  obtain ⟨S_IN, S_WORKFLOW_IN, S_WORKFLOW_OUT, S_DERIVED, S_PARAM, S_OUT, E_IN, E_WORKFLOW_IN, E_WORKFLOW_OUT, E_DERIVED, E_PARAM, E_OUT, n_IN_WORKFLOW_IN, n_IN_WORKFLOW_OUT, n_IN_DERIVED, n_IN_PARAM, n_IN_OUT, n_WORKFLOW_IN_WORKFLOW_OUT, n_WORKFLOW_IN_DERIVED, n_WORKFLOW_IN_PARAM, n_WORKFLOW_IN_OUT, n_WORKFLOW_OUT_DERIVED, n_WORKFLOW_OUT_PARAM, n_WORKFLOW_OUT_OUT, n_DERIVED_PARAM, n_DERIVED_OUT, n_PARAM_OUT⟩ := hp'
  refine MetFree.of_bodySF (plainFor_of_name own_pn0) hisR ?_
  intro p e s m args below meth c s₁ Bd hml0 hP hK
  obtain ⟨rfl, hZ, hh⟩ := hP
  have hx := Bd.exec
  have hby := Bd.bytes
  have hml : c.maxLocals = 4 := hml0
  have hown : s.vm.findClass "com/example/covell/covell/model/PortRoleIsWorkflowPortPinLaw" = some m.cls := findClass_of_methodNamed Bd.named
  have X0 : Stand p l e room_1 s m #[(.int p1)] below meth c s₁ [] 0 0 := Stand.of_body Bd
  have e0 : s₁.heap = h0 := by rw [← hh, Bd.state]; rfl
  have N0 := Fr.nil n0
  have pre0 : ∀ t, Steps p.tables e below (s₁.setTop (mkF m 0 #[.val (.int p1), .unset, .unset, .unset] [])) t → Steps p.tables e below (s₁.setTop (entryFrame m #[(.int p1)] maxLocals)) t := fun t k => castTop (by first | (simp [entryFrame, mkF, argsToLocals, Value.category, maxLocals]; done) | rfl) k
  obtain ⟨_, _, ⟨T1, L1, k1, n1⟩, -, X1, ⟨Lc1, hQ1, l1, y1, z1⟩, st1⟩ := Jvm.LawKit.callS X0 hx (y := (⟨"com/example/covell/covell/model/PortRoleIsWorkflowPortPinLaw", "pick", "(I)Lcom/example/covell/covell/model/PortRole;"⟩ : MethodName)) hown (mvT hZ (hw _ (List.mem_of_getElem? (i := 1) rfl))) (mvT hZ (hw _ (List.mem_of_getElem? (i := 2) rfl))) (mvT hZ (hw _ (List.mem_of_getElem? (i := 3) rfl))) (mvT hZ (hw _ (List.mem_of_getElem? (i := 4) rfl))) (by decide) (backOf (W := 0) (own_b1_3 l Z a0 hw [] a_IN a_WORKFLOW_IN a_WORKFLOW_OUT a_DERIVED a_PARAM a_OUT  h0 n0 hp) hZ (hw _ (List.mem_of_getElem? (i := 4) rfl)) (hw _ (List.mem_of_getElem? (i := 3) rfl)) (by decide) (by decide)) (g := (mkF m 9 #[.val (.int p1), .val (.int (3 : Int32)), .unset, .unset] [(.int (3 : Int32))])) rfl (by rw [hml]; rfl) (argsL := [(.int (3 : Int32))]) (rest := []) (lenOf own_pd0 rfl) rfl (by show 2 * 0 + _ ≤ _; exact Nat.le_of_eq rfl) (hb hby at_9) (fun _ _ => ⟨rfl, e0, (by decide : 0 + 0 ≤ _), (by decide : 0 + 0 ≤ _)⟩)
  dsimp only [Pt.U, Pt.locs, Pt.cells, Pt.slots] at X1 l1 y1 z1 st1 hQ1
  subst l1 y1 z1
  obtain ⟨rfl, N1q, e1⟩ := hQ1
  have N1 := Fr.app N0 N1q
  obtain ⟨T2, X2, e2, st2⟩ := getS X1 hx hZ hown (host := "") (hw _ (List.mem_of_getElem? (i := 5) rfl)) Via.refl e1 S_IN (g := (mkF m 14 #[.val (.int p1), .val (.int (3 : Int32)), .val (.ref a_WORKFLOW_IN), .unset] [(.ref a_WORKFLOW_IN)])) rfl (hb hby at_14)
  obtain ⟨T3, X3, e3, st3⟩ := getS X2 hx hZ hown (host := "") (hw _ (List.mem_of_getElem? (i := 20) rfl)) Via.refl e2 S_PARAM (g := (mkF m 21 #[.val (.int p1), .val (.int (3 : Int32)), .val (.ref a_WORKFLOW_IN), .unset] [(.ref a_WORKFLOW_IN)])) rfl (hb hby at_21)
  obtain ⟨T4, X4, e4, st4⟩ := getS X3 hx hZ hown (host := "") (hw _ (List.mem_of_getElem? (i := 22) rfl)) Via.refl e3 S_OUT (g := (mkF m 28 #[.val (.int p1), .val (.int (3 : Int32)), .val (.ref a_WORKFLOW_IN), .unset] [(.ref a_WORKFLOW_IN)])) rfl (hb hby at_28)
  obtain ⟨cq5, kq5, q5a, q5b, q5c⟩ := isOf hZ e4 E_WORKFLOW_IN
  obtain ⟨_, _, ⟨T5, L5, k5, n5⟩, -, X5, ⟨Lc5, hQ5, l5, y5, z5⟩, st5⟩ := X4.virtualBack hx (y := (⟨"com/example/covell/covell/model/PortRole", "isWorkflowPort", "()Z"⟩ : MethodName)) (z := (⟨"com/example/covell/covell/model/PortRole", "isWorkflowPort", "()Z"⟩ : MethodName)) hown (mvT hZ (hw _ (List.mem_of_getElem? (i := 8) rfl))) (mvT hZ (hw _ (List.mem_of_getElem? (i := 9) rfl))) (notFace_of_selects (args := #[]) (mvT hZ (hw _ (List.mem_of_getElem? (i := 11) rfl)))) (mvT hZ (hw _ (List.mem_of_getElem? (i := 11) rfl))) (mvT hZ (hw _ (List.mem_of_getElem? (i := 10) rfl))) (by decide) (backOf (W := 0) (own_b2_3 l Z a0 hw [] a_IN a_WORKFLOW_IN a_WORKFLOW_OUT a_DERIVED a_PARAM a_OUT  h0 n0 hp) hZ (hw _ (List.mem_of_getElem? (i := 12) rfl)) (hw _ (List.mem_of_getElem? (i := 6) rfl)) (by decide) (by decide)) q5a q5c (g := (mkF m 41 #[.val (.int p1), .val (.int (3 : Int32)), .val (.ref a_WORKFLOW_IN), .val (.int (0 : Int32))] [(.ref a_WORKFLOW_IN)])) rfl (by rw [hml]; rfl) (Steps.refl _) (argsL := []) (rest := []) (lenOf own_pd1 rfl) rfl (by show 2 * 0 + _ ≤ _; exact Nat.le_of_eq rfl) (hb hby at_41) (fun _ _ => ⟨rfl, e4, (by decide : 0 + 0 ≤ _), (by decide : 0 + 0 ≤ _)⟩)
  dsimp only [Pt.U, Pt.locs, Pt.cells, Pt.slots] at X5 l5 y5 z5 st5 hQ5
  subst l5 y5 z5
  obtain ⟨rfl, N5q, e5⟩ := hQ5
  have N5 := Fr.app N1 N5q
  obtain ⟨fs, hr, hrun, hended, hW, hsame⟩ := X5.leave (v := some (.int (1 : Int32))) (fun h => by rw [Bd.returns] at h; cases h)
  refine ⟨_, _, pre0 _ ?_, hrun, hended, _, _, rfl, ?_, ⟨_, rfl⟩, hW, hsame.mono (by decide) (by decide)⟩
  · show Steps p.tables e below (s₁.setTop (mkF m 0 #[.val (.int p1), .unset, .unset, .unset] [])) _
    refine XS.iloadN X0.here hx rfl (hb hby at_0) rfl ?_
    show Steps p.tables e below (s₁.setTop (mkF m 1 #[.val (.int p1), .unset, .unset, .unset] [(.int p1)])) _
    refine X0.ldcInt hx hown (mvT hZ (hw _ (List.mem_of_getElem? (i := 0) rfl))) (g := (mkF m 1 #[.val (.int p1), .unset, .unset, .unset] [(.int p1)])) rfl (hb hby at_1) _ ?_
    show Steps p.tables e below (s₁.setTop (mkF m 3 #[.val (.int p1), .unset, .unset, .unset] [(.int (2147483647 : Int32)), (.int p1)])) _
    refine XS.iand X0.here hx rfl (hb hby at_3) rfl ?_
    show Steps p.tables e below (s₁.setTop (mkF m 4 #[.val (.int p1), .unset, .unset, .unset] [(.int (p1 &&& (2147483647 : Int32)))])) _
    refine XS.bipush X0.here hx rfl (hb hby at_4) ?_
    show Steps p.tables e below (s₁.setTop (mkF m 6 #[.val (.int p1), .unset, .unset, .unset] [(.int (6 : Int32)), (.int (p1 &&& (2147483647 : Int32)))])) _
    refine iremM (g := (mkF m 6 #[.val (.int p1), .unset, .unset, .unset] [(.int (6 : Int32)), (.int (p1 &&& (2147483647 : Int32)))])) X0 hx rfl (hb hby at_6) rfl (by decide) ?_
    show Steps p.tables e below (s₁.setTop (mkF m 7 #[.val (.int p1), .unset, .unset, .unset] [(.int ((p1 &&& (2147483647 : Int32)) % (6 : Int32)))])) _
    rewrite [hi]
    show Steps p.tables e below (s₁.setTop (mkF m 7 #[.val (.int p1), .unset, .unset, .unset] [(.int (3 : Int32))])) _
    refine XS.istoreN X0.here hx rfl (hb hby at_7) rfl (l' := #[.val (.int p1), .val (.int (3 : Int32)), .unset, .unset]) rfl ?_
    show Steps p.tables e below (s₁.setTop (mkF m 8 #[.val (.int p1), .val (.int (3 : Int32)), .unset, .unset] [])) _
    refine XS.iloadN X0.here hx rfl (hb hby at_8) rfl ?_
    show Steps p.tables e below (s₁.setTop (mkF m 9 #[.val (.int p1), .val (.int (3 : Int32)), .unset, .unset] [(.int (3 : Int32))])) _
    refine st1 _ ?_
    show Steps p.tables e below (T1.setTop (mkF m 12 #[.val (.int p1), .val (.int (3 : Int32)), .unset, .unset] [(.ref a_WORKFLOW_IN)])) _
    refine XS.astoreN X1.here hx rfl (hb hby at_12) rfl rfl (l' := #[.val (.int p1), .val (.int (3 : Int32)), .val (.ref a_WORKFLOW_IN), .unset]) rfl ?_
    show Steps p.tables e below (T1.setTop (mkF m 13 #[.val (.int p1), .val (.int (3 : Int32)), .val (.ref a_WORKFLOW_IN), .unset] [])) _
    refine XS.aloadN X1.here hx rfl (hb hby at_13) rfl rfl ?_
    show Steps p.tables e below (T1.setTop (mkF m 14 #[.val (.int p1), .val (.int (3 : Int32)), .val (.ref a_WORKFLOW_IN), .unset] [(.ref a_WORKFLOW_IN)])) _
    refine st2 _ ?_
    show Steps p.tables e below (T2.setTop (mkF m 17 #[.val (.int p1), .val (.int (3 : Int32)), .val (.ref a_WORKFLOW_IN), .unset] [(.ref a_IN), (.ref a_WORKFLOW_IN)])) _
    refine Jvm.RoadKit.acmp (g := (mkF m 17 #[.val (.int p1), .val (.int (3 : Int32)), .val (.ref a_WORKFLOW_IN), .unset] [(.ref a_IN), (.ref a_WORKFLOW_IN)])) X2 hx rfl rfl rfl (pc0 := 17) (pc' := 20) (same := false) rfl (hb hby at_17) rfl (decide_eq_false fun q => n_IN_WORKFLOW_IN (Value.ref.inj q).symm) (by decide) (by decide) ?_
    show Steps p.tables e below (T2.setTop (mkF m 20 #[.val (.int p1), .val (.int (3 : Int32)), .val (.ref a_WORKFLOW_IN), .unset] [])) _
    refine XS.aloadN X2.here hx rfl (hb hby at_20) rfl rfl ?_
    show Steps p.tables e below (T2.setTop (mkF m 21 #[.val (.int p1), .val (.int (3 : Int32)), .val (.ref a_WORKFLOW_IN), .unset] [(.ref a_WORKFLOW_IN)])) _
    refine st3 _ ?_
    show Steps p.tables e below (T3.setTop (mkF m 24 #[.val (.int p1), .val (.int (3 : Int32)), .val (.ref a_WORKFLOW_IN), .unset] [(.ref a_PARAM), (.ref a_WORKFLOW_IN)])) _
    refine Jvm.RoadKit.acmp (g := (mkF m 24 #[.val (.int p1), .val (.int (3 : Int32)), .val (.ref a_WORKFLOW_IN), .unset] [(.ref a_PARAM), (.ref a_WORKFLOW_IN)])) X3 hx rfl rfl rfl (pc0 := 24) (pc' := 27) (same := false) rfl (hb hby at_24) rfl (decide_eq_false fun q => n_WORKFLOW_IN_PARAM (Value.ref.inj q)) (by decide) (by decide) ?_
    show Steps p.tables e below (T3.setTop (mkF m 27 #[.val (.int p1), .val (.int (3 : Int32)), .val (.ref a_WORKFLOW_IN), .unset] [])) _
    refine XS.aloadN X3.here hx rfl (hb hby at_27) rfl rfl ?_
    show Steps p.tables e below (T3.setTop (mkF m 28 #[.val (.int p1), .val (.int (3 : Int32)), .val (.ref a_WORKFLOW_IN), .unset] [(.ref a_WORKFLOW_IN)])) _
    refine st4 _ ?_
    show Steps p.tables e below (T4.setTop (mkF m 31 #[.val (.int p1), .val (.int (3 : Int32)), .val (.ref a_WORKFLOW_IN), .unset] [(.ref a_OUT), (.ref a_WORKFLOW_IN)])) _
    refine Jvm.RoadKit.acmp (g := (mkF m 31 #[.val (.int p1), .val (.int (3 : Int32)), .val (.ref a_WORKFLOW_IN), .unset] [(.ref a_OUT), (.ref a_WORKFLOW_IN)])) X4 hx rfl rfl rfl (pc0 := 31) (pc' := 38) (same := false) rfl (hb hby at_31) rfl (decide_eq_false fun q => n_WORKFLOW_IN_OUT (Value.ref.inj q)) (by decide) (by decide) ?_
    show Steps p.tables e below (T4.setTop (mkF m 38 #[.val (.int p1), .val (.int (3 : Int32)), .val (.ref a_WORKFLOW_IN), .unset] [])) _
    refine XS.iconst X4.here hx rfl (hb hby at_38) ?_
    show Steps p.tables e below (T4.setTop (mkF m 39 #[.val (.int p1), .val (.int (3 : Int32)), .val (.ref a_WORKFLOW_IN), .unset] [(.int (0 : Int32))])) _
    refine XS.istoreN X4.here hx rfl (hb hby at_39) rfl (l' := #[.val (.int p1), .val (.int (3 : Int32)), .val (.ref a_WORKFLOW_IN), .val (.int (0 : Int32))]) rfl ?_
    show Steps p.tables e below (T4.setTop (mkF m 40 #[.val (.int p1), .val (.int (3 : Int32)), .val (.ref a_WORKFLOW_IN), .val (.int (0 : Int32))] [])) _
    refine XS.aloadN X4.here hx rfl (hb hby at_40) rfl rfl ?_
    show Steps p.tables e below (T4.setTop (mkF m 41 #[.val (.int p1), .val (.int (3 : Int32)), .val (.ref a_WORKFLOW_IN), .val (.int (0 : Int32))] [(.ref a_WORKFLOW_IN)])) _
    refine st5.trans ?_
    show Steps p.tables e below (T5.setTop (mkF m 44 #[.val (.int p1), .val (.int (3 : Int32)), .val (.ref a_WORKFLOW_IN), .val (.int (0 : Int32))] [(.int (1 : Int32))])) _
    refine XS.iloadN X5.here hx rfl (hb hby at_44) rfl ?_
    show Steps p.tables e below (T5.setTop (mkF m 45 #[.val (.int p1), .val (.int (3 : Int32)), .val (.ref a_WORKFLOW_IN), .val (.int (0 : Int32))] [(.int (0 : Int32)), (.int (1 : Int32))])) _
    refine XS.ifNo X5.here hx rfl (hb hby at_45) rfl (by decide) ?_
    show Steps p.tables e below (T5.setTop (mkF m 48 #[.val (.int p1), .val (.int (3 : Int32)), .val (.ref a_WORKFLOW_IN), .val (.int (0 : Int32))] [(.int (1 : Int32))])) _
    refine XS.iconst X5.here hx rfl (hb hby at_48) ?_
    show Steps p.tables e below (T5.setTop (mkF m 49 #[.val (.int p1), .val (.int (3 : Int32)), .val (.ref a_WORKFLOW_IN), .val (.int (0 : Int32))] [(.int (1 : Int32)), (.int (1 : Int32))])) _
    refine XS.goto X5.here hx rfl (pc0 := 49) (pc' := 53) rfl (hb hby at_49) (by decide) (by decide) ?_
    show Steps p.tables e below (T5.setTop (mkF m 53 #[.val (.int p1), .val (.int (3 : Int32)), .val (.ref a_WORKFLOW_IN), .val (.int (0 : Int32))] [(.int (1 : Int32)), (.int (1 : Int32))])) _
    refine XS.icmpNo X5.here hx rfl (hb hby at_53) rfl (by decide) ?_
    show Steps p.tables e below (T5.setTop (mkF m 56 #[.val (.int p1), .val (.int (3 : Int32)), .val (.ref a_WORKFLOW_IN), .val (.int (0 : Int32))] [])) _
    refine XS.iconst X5.here hx rfl (hb hby at_56) ?_
    show Steps p.tables e below (T5.setTop (mkF m 57 #[.val (.int p1), .val (.int (3 : Int32)), .val (.ref a_WORKFLOW_IN), .val (.int (0 : Int32))] [(.int (1 : Int32))])) _
    refine XS.goto X5.here hx rfl (pc0 := 57) (pc' := 61) rfl (hb hby at_57) (by decide) (by decide) ?_
    show Steps p.tables e below (T5.setTop (mkF m 61 #[.val (.int p1), .val (.int (3 : Int32)), .val (.ref a_WORKFLOW_IN), .val (.int (0 : Int32))] [(.int (1 : Int32))])) _
    exact retN X5 hx (t := .boolean) Bd.returns (by simp) (hb hby at_61) hr
  · show own_Q _ h0 n0 _ T5.heap _
    exact ⟨rfl, N5, e5⟩
set_option maxRecDepth 65536 in
set_option maxHeartbeats 40000000 in
theorem own_law_4 (l : Launch) (Z : State) (a0 : Array Value) (hw : ∀ d ∈ tables_1, d.before a0 Z = true) (ws : List Jvm.Cond) (a_IN a_WORKFLOW_IN a_WORKFLOW_OUT a_DERIVED a_PARAM a_OUT : Addr) (p1 : Int32) (h0 : Heap) (n0 : Nat) (hp : own_Pin Z h0 a_IN a_WORKFLOW_IN a_WORKFLOW_OUT a_DERIVED a_PARAM a_OUT) (hi : ((p1 &&& (2147483647 : Int32)) % (6 : Int32)) = (4 : Int32)) :
    MetFree l x (head1 (Jvm.Cond.code x code maxLocals ret :: ws) room_1) (fun a U => a = #[(.int p1)] ∧ Z.Warmed39 U.vm ∧ U.heap = h0) (fun _ _ _ _ _ => True) (fun _ U o U' => ∃ v L, o = .returned v ∧ own_Q (.int (1 : Int32)) h0 n0 v U'.heap L ∧ FrameEnd U o U' L room_1.cells room_1.slots) := by
  have hp' := hp
  obtain ⟨S_IN, S_WORKFLOW_IN, S_WORKFLOW_OUT, S_DERIVED, S_PARAM, S_OUT, E_IN, E_WORKFLOW_IN, E_WORKFLOW_OUT, E_DERIVED, E_PARAM, E_OUT, n_IN_WORKFLOW_IN, n_IN_WORKFLOW_OUT, n_IN_DERIVED, n_IN_PARAM, n_IN_OUT, n_WORKFLOW_IN_WORKFLOW_OUT, n_WORKFLOW_IN_DERIVED, n_WORKFLOW_IN_PARAM, n_WORKFLOW_IN_OUT, n_WORKFLOW_OUT_DERIVED, n_WORKFLOW_OUT_PARAM, n_WORKFLOW_OUT_OUT, n_DERIVED_PARAM, n_DERIVED_OUT, n_PARAM_OUT⟩ := hp'
  refine MetFree.of_bodySF (plainFor_of_name own_pn0) hisR ?_
  intro p e s m args below meth c s₁ Bd hml0 hP hK
  obtain ⟨rfl, hZ, hh⟩ := hP
  have hx := Bd.exec
  have hby := Bd.bytes
  have hml : c.maxLocals = 4 := hml0
  have hown : s.vm.findClass "com/example/covell/covell/model/PortRoleIsWorkflowPortPinLaw" = some m.cls := findClass_of_methodNamed Bd.named
  have X0 : Stand p l e room_1 s m #[(.int p1)] below meth c s₁ [] 0 0 := Stand.of_body Bd
  have e0 : s₁.heap = h0 := by rw [← hh, Bd.state]; rfl
  have N0 := Fr.nil n0
  have pre0 : ∀ t, Steps p.tables e below (s₁.setTop (mkF m 0 #[.val (.int p1), .unset, .unset, .unset] [])) t → Steps p.tables e below (s₁.setTop (entryFrame m #[(.int p1)] maxLocals)) t := fun t k => castTop (by first | (simp [entryFrame, mkF, argsToLocals, Value.category, maxLocals]; done) | rfl) k
  obtain ⟨_, _, ⟨T1, L1, k1, n1⟩, -, X1, ⟨Lc1, hQ1, l1, y1, z1⟩, st1⟩ := Jvm.LawKit.callS X0 hx (y := (⟨"com/example/covell/covell/model/PortRoleIsWorkflowPortPinLaw", "pick", "(I)Lcom/example/covell/covell/model/PortRole;"⟩ : MethodName)) hown (mvT hZ (hw _ (List.mem_of_getElem? (i := 1) rfl))) (mvT hZ (hw _ (List.mem_of_getElem? (i := 2) rfl))) (mvT hZ (hw _ (List.mem_of_getElem? (i := 3) rfl))) (mvT hZ (hw _ (List.mem_of_getElem? (i := 4) rfl))) (by decide) (backOf (W := 0) (own_b1_4 l Z a0 hw [] a_IN a_WORKFLOW_IN a_WORKFLOW_OUT a_DERIVED a_PARAM a_OUT  h0 n0 hp) hZ (hw _ (List.mem_of_getElem? (i := 4) rfl)) (hw _ (List.mem_of_getElem? (i := 3) rfl)) (by decide) (by decide)) (g := (mkF m 9 #[.val (.int p1), .val (.int (4 : Int32)), .unset, .unset] [(.int (4 : Int32))])) rfl (by rw [hml]; rfl) (argsL := [(.int (4 : Int32))]) (rest := []) (lenOf own_pd0 rfl) rfl (by show 2 * 0 + _ ≤ _; exact Nat.le_of_eq rfl) (hb hby at_9) (fun _ _ => ⟨rfl, e0, (by decide : 0 + 0 ≤ _), (by decide : 0 + 0 ≤ _)⟩)
  dsimp only [Pt.U, Pt.locs, Pt.cells, Pt.slots] at X1 l1 y1 z1 st1 hQ1
  subst l1 y1 z1
  obtain ⟨rfl, N1q, e1⟩ := hQ1
  have N1 := Fr.app N0 N1q
  obtain ⟨T2, X2, e2, st2⟩ := getS X1 hx hZ hown (host := "") (hw _ (List.mem_of_getElem? (i := 5) rfl)) Via.refl e1 S_IN (g := (mkF m 14 #[.val (.int p1), .val (.int (4 : Int32)), .val (.ref a_WORKFLOW_OUT), .unset] [(.ref a_WORKFLOW_OUT)])) rfl (hb hby at_14)
  obtain ⟨T3, X3, e3, st3⟩ := getS X2 hx hZ hown (host := "") (hw _ (List.mem_of_getElem? (i := 20) rfl)) Via.refl e2 S_PARAM (g := (mkF m 21 #[.val (.int p1), .val (.int (4 : Int32)), .val (.ref a_WORKFLOW_OUT), .unset] [(.ref a_WORKFLOW_OUT)])) rfl (hb hby at_21)
  obtain ⟨T4, X4, e4, st4⟩ := getS X3 hx hZ hown (host := "") (hw _ (List.mem_of_getElem? (i := 22) rfl)) Via.refl e3 S_OUT (g := (mkF m 28 #[.val (.int p1), .val (.int (4 : Int32)), .val (.ref a_WORKFLOW_OUT), .unset] [(.ref a_WORKFLOW_OUT)])) rfl (hb hby at_28)
  obtain ⟨cq5, kq5, q5a, q5b, q5c⟩ := isOf hZ e4 E_WORKFLOW_OUT
  obtain ⟨_, _, ⟨T5, L5, k5, n5⟩, -, X5, ⟨Lc5, hQ5, l5, y5, z5⟩, st5⟩ := X4.virtualBack hx (y := (⟨"com/example/covell/covell/model/PortRole", "isWorkflowPort", "()Z"⟩ : MethodName)) (z := (⟨"com/example/covell/covell/model/PortRole", "isWorkflowPort", "()Z"⟩ : MethodName)) hown (mvT hZ (hw _ (List.mem_of_getElem? (i := 8) rfl))) (mvT hZ (hw _ (List.mem_of_getElem? (i := 9) rfl))) (notFace_of_selects (args := #[]) (mvT hZ (hw _ (List.mem_of_getElem? (i := 11) rfl)))) (mvT hZ (hw _ (List.mem_of_getElem? (i := 11) rfl))) (mvT hZ (hw _ (List.mem_of_getElem? (i := 10) rfl))) (by decide) (backOf (W := 0) (own_b2_4 l Z a0 hw [] a_IN a_WORKFLOW_IN a_WORKFLOW_OUT a_DERIVED a_PARAM a_OUT  h0 n0 hp) hZ (hw _ (List.mem_of_getElem? (i := 12) rfl)) (hw _ (List.mem_of_getElem? (i := 6) rfl)) (by decide) (by decide)) q5a q5c (g := (mkF m 41 #[.val (.int p1), .val (.int (4 : Int32)), .val (.ref a_WORKFLOW_OUT), .val (.int (0 : Int32))] [(.ref a_WORKFLOW_OUT)])) rfl (by rw [hml]; rfl) (Steps.refl _) (argsL := []) (rest := []) (lenOf own_pd1 rfl) rfl (by show 2 * 0 + _ ≤ _; exact Nat.le_of_eq rfl) (hb hby at_41) (fun _ _ => ⟨rfl, e4, (by decide : 0 + 0 ≤ _), (by decide : 0 + 0 ≤ _)⟩)
  dsimp only [Pt.U, Pt.locs, Pt.cells, Pt.slots] at X5 l5 y5 z5 st5 hQ5
  subst l5 y5 z5
  obtain ⟨rfl, N5q, e5⟩ := hQ5
  have N5 := Fr.app N1 N5q
  obtain ⟨fs, hr, hrun, hended, hW, hsame⟩ := X5.leave (v := some (.int (1 : Int32))) (fun h => by rw [Bd.returns] at h; cases h)
  refine ⟨_, _, pre0 _ ?_, hrun, hended, _, _, rfl, ?_, ⟨_, rfl⟩, hW, hsame.mono (by decide) (by decide)⟩
  · show Steps p.tables e below (s₁.setTop (mkF m 0 #[.val (.int p1), .unset, .unset, .unset] [])) _
    refine XS.iloadN X0.here hx rfl (hb hby at_0) rfl ?_
    show Steps p.tables e below (s₁.setTop (mkF m 1 #[.val (.int p1), .unset, .unset, .unset] [(.int p1)])) _
    refine X0.ldcInt hx hown (mvT hZ (hw _ (List.mem_of_getElem? (i := 0) rfl))) (g := (mkF m 1 #[.val (.int p1), .unset, .unset, .unset] [(.int p1)])) rfl (hb hby at_1) _ ?_
    show Steps p.tables e below (s₁.setTop (mkF m 3 #[.val (.int p1), .unset, .unset, .unset] [(.int (2147483647 : Int32)), (.int p1)])) _
    refine XS.iand X0.here hx rfl (hb hby at_3) rfl ?_
    show Steps p.tables e below (s₁.setTop (mkF m 4 #[.val (.int p1), .unset, .unset, .unset] [(.int (p1 &&& (2147483647 : Int32)))])) _
    refine XS.bipush X0.here hx rfl (hb hby at_4) ?_
    show Steps p.tables e below (s₁.setTop (mkF m 6 #[.val (.int p1), .unset, .unset, .unset] [(.int (6 : Int32)), (.int (p1 &&& (2147483647 : Int32)))])) _
    refine iremM (g := (mkF m 6 #[.val (.int p1), .unset, .unset, .unset] [(.int (6 : Int32)), (.int (p1 &&& (2147483647 : Int32)))])) X0 hx rfl (hb hby at_6) rfl (by decide) ?_
    show Steps p.tables e below (s₁.setTop (mkF m 7 #[.val (.int p1), .unset, .unset, .unset] [(.int ((p1 &&& (2147483647 : Int32)) % (6 : Int32)))])) _
    rewrite [hi]
    show Steps p.tables e below (s₁.setTop (mkF m 7 #[.val (.int p1), .unset, .unset, .unset] [(.int (4 : Int32))])) _
    refine XS.istoreN X0.here hx rfl (hb hby at_7) rfl (l' := #[.val (.int p1), .val (.int (4 : Int32)), .unset, .unset]) rfl ?_
    show Steps p.tables e below (s₁.setTop (mkF m 8 #[.val (.int p1), .val (.int (4 : Int32)), .unset, .unset] [])) _
    refine XS.iloadN X0.here hx rfl (hb hby at_8) rfl ?_
    show Steps p.tables e below (s₁.setTop (mkF m 9 #[.val (.int p1), .val (.int (4 : Int32)), .unset, .unset] [(.int (4 : Int32))])) _
    refine st1 _ ?_
    show Steps p.tables e below (T1.setTop (mkF m 12 #[.val (.int p1), .val (.int (4 : Int32)), .unset, .unset] [(.ref a_WORKFLOW_OUT)])) _
    refine XS.astoreN X1.here hx rfl (hb hby at_12) rfl rfl (l' := #[.val (.int p1), .val (.int (4 : Int32)), .val (.ref a_WORKFLOW_OUT), .unset]) rfl ?_
    show Steps p.tables e below (T1.setTop (mkF m 13 #[.val (.int p1), .val (.int (4 : Int32)), .val (.ref a_WORKFLOW_OUT), .unset] [])) _
    refine XS.aloadN X1.here hx rfl (hb hby at_13) rfl rfl ?_
    show Steps p.tables e below (T1.setTop (mkF m 14 #[.val (.int p1), .val (.int (4 : Int32)), .val (.ref a_WORKFLOW_OUT), .unset] [(.ref a_WORKFLOW_OUT)])) _
    refine st2 _ ?_
    show Steps p.tables e below (T2.setTop (mkF m 17 #[.val (.int p1), .val (.int (4 : Int32)), .val (.ref a_WORKFLOW_OUT), .unset] [(.ref a_IN), (.ref a_WORKFLOW_OUT)])) _
    refine Jvm.RoadKit.acmp (g := (mkF m 17 #[.val (.int p1), .val (.int (4 : Int32)), .val (.ref a_WORKFLOW_OUT), .unset] [(.ref a_IN), (.ref a_WORKFLOW_OUT)])) X2 hx rfl rfl rfl (pc0 := 17) (pc' := 20) (same := false) rfl (hb hby at_17) rfl (decide_eq_false fun q => n_IN_WORKFLOW_OUT (Value.ref.inj q).symm) (by decide) (by decide) ?_
    show Steps p.tables e below (T2.setTop (mkF m 20 #[.val (.int p1), .val (.int (4 : Int32)), .val (.ref a_WORKFLOW_OUT), .unset] [])) _
    refine XS.aloadN X2.here hx rfl (hb hby at_20) rfl rfl ?_
    show Steps p.tables e below (T2.setTop (mkF m 21 #[.val (.int p1), .val (.int (4 : Int32)), .val (.ref a_WORKFLOW_OUT), .unset] [(.ref a_WORKFLOW_OUT)])) _
    refine st3 _ ?_
    show Steps p.tables e below (T3.setTop (mkF m 24 #[.val (.int p1), .val (.int (4 : Int32)), .val (.ref a_WORKFLOW_OUT), .unset] [(.ref a_PARAM), (.ref a_WORKFLOW_OUT)])) _
    refine Jvm.RoadKit.acmp (g := (mkF m 24 #[.val (.int p1), .val (.int (4 : Int32)), .val (.ref a_WORKFLOW_OUT), .unset] [(.ref a_PARAM), (.ref a_WORKFLOW_OUT)])) X3 hx rfl rfl rfl (pc0 := 24) (pc' := 27) (same := false) rfl (hb hby at_24) rfl (decide_eq_false fun q => n_WORKFLOW_OUT_PARAM (Value.ref.inj q)) (by decide) (by decide) ?_
    show Steps p.tables e below (T3.setTop (mkF m 27 #[.val (.int p1), .val (.int (4 : Int32)), .val (.ref a_WORKFLOW_OUT), .unset] [])) _
    refine XS.aloadN X3.here hx rfl (hb hby at_27) rfl rfl ?_
    show Steps p.tables e below (T3.setTop (mkF m 28 #[.val (.int p1), .val (.int (4 : Int32)), .val (.ref a_WORKFLOW_OUT), .unset] [(.ref a_WORKFLOW_OUT)])) _
    refine st4 _ ?_
    show Steps p.tables e below (T4.setTop (mkF m 31 #[.val (.int p1), .val (.int (4 : Int32)), .val (.ref a_WORKFLOW_OUT), .unset] [(.ref a_OUT), (.ref a_WORKFLOW_OUT)])) _
    refine Jvm.RoadKit.acmp (g := (mkF m 31 #[.val (.int p1), .val (.int (4 : Int32)), .val (.ref a_WORKFLOW_OUT), .unset] [(.ref a_OUT), (.ref a_WORKFLOW_OUT)])) X4 hx rfl rfl rfl (pc0 := 31) (pc' := 38) (same := false) rfl (hb hby at_31) rfl (decide_eq_false fun q => n_WORKFLOW_OUT_OUT (Value.ref.inj q)) (by decide) (by decide) ?_
    show Steps p.tables e below (T4.setTop (mkF m 38 #[.val (.int p1), .val (.int (4 : Int32)), .val (.ref a_WORKFLOW_OUT), .unset] [])) _
    refine XS.iconst X4.here hx rfl (hb hby at_38) ?_
    show Steps p.tables e below (T4.setTop (mkF m 39 #[.val (.int p1), .val (.int (4 : Int32)), .val (.ref a_WORKFLOW_OUT), .unset] [(.int (0 : Int32))])) _
    refine XS.istoreN X4.here hx rfl (hb hby at_39) rfl (l' := #[.val (.int p1), .val (.int (4 : Int32)), .val (.ref a_WORKFLOW_OUT), .val (.int (0 : Int32))]) rfl ?_
    show Steps p.tables e below (T4.setTop (mkF m 40 #[.val (.int p1), .val (.int (4 : Int32)), .val (.ref a_WORKFLOW_OUT), .val (.int (0 : Int32))] [])) _
    refine XS.aloadN X4.here hx rfl (hb hby at_40) rfl rfl ?_
    show Steps p.tables e below (T4.setTop (mkF m 41 #[.val (.int p1), .val (.int (4 : Int32)), .val (.ref a_WORKFLOW_OUT), .val (.int (0 : Int32))] [(.ref a_WORKFLOW_OUT)])) _
    refine st5.trans ?_
    show Steps p.tables e below (T5.setTop (mkF m 44 #[.val (.int p1), .val (.int (4 : Int32)), .val (.ref a_WORKFLOW_OUT), .val (.int (0 : Int32))] [(.int (1 : Int32))])) _
    refine XS.iloadN X5.here hx rfl (hb hby at_44) rfl ?_
    show Steps p.tables e below (T5.setTop (mkF m 45 #[.val (.int p1), .val (.int (4 : Int32)), .val (.ref a_WORKFLOW_OUT), .val (.int (0 : Int32))] [(.int (0 : Int32)), (.int (1 : Int32))])) _
    refine XS.ifNo X5.here hx rfl (hb hby at_45) rfl (by decide) ?_
    show Steps p.tables e below (T5.setTop (mkF m 48 #[.val (.int p1), .val (.int (4 : Int32)), .val (.ref a_WORKFLOW_OUT), .val (.int (0 : Int32))] [(.int (1 : Int32))])) _
    refine XS.iconst X5.here hx rfl (hb hby at_48) ?_
    show Steps p.tables e below (T5.setTop (mkF m 49 #[.val (.int p1), .val (.int (4 : Int32)), .val (.ref a_WORKFLOW_OUT), .val (.int (0 : Int32))] [(.int (1 : Int32)), (.int (1 : Int32))])) _
    refine XS.goto X5.here hx rfl (pc0 := 49) (pc' := 53) rfl (hb hby at_49) (by decide) (by decide) ?_
    show Steps p.tables e below (T5.setTop (mkF m 53 #[.val (.int p1), .val (.int (4 : Int32)), .val (.ref a_WORKFLOW_OUT), .val (.int (0 : Int32))] [(.int (1 : Int32)), (.int (1 : Int32))])) _
    refine XS.icmpNo X5.here hx rfl (hb hby at_53) rfl (by decide) ?_
    show Steps p.tables e below (T5.setTop (mkF m 56 #[.val (.int p1), .val (.int (4 : Int32)), .val (.ref a_WORKFLOW_OUT), .val (.int (0 : Int32))] [])) _
    refine XS.iconst X5.here hx rfl (hb hby at_56) ?_
    show Steps p.tables e below (T5.setTop (mkF m 57 #[.val (.int p1), .val (.int (4 : Int32)), .val (.ref a_WORKFLOW_OUT), .val (.int (0 : Int32))] [(.int (1 : Int32))])) _
    refine XS.goto X5.here hx rfl (pc0 := 57) (pc' := 61) rfl (hb hby at_57) (by decide) (by decide) ?_
    show Steps p.tables e below (T5.setTop (mkF m 61 #[.val (.int p1), .val (.int (4 : Int32)), .val (.ref a_WORKFLOW_OUT), .val (.int (0 : Int32))] [(.int (1 : Int32))])) _
    exact retN X5 hx (t := .boolean) Bd.returns (by simp) (hb hby at_61) hr
  · show own_Q _ h0 n0 _ T5.heap _
    exact ⟨rfl, N5, e5⟩
set_option maxRecDepth 65536 in
set_option maxHeartbeats 40000000 in
theorem own_law_5 (l : Launch) (Z : State) (a0 : Array Value) (hw : ∀ d ∈ tables_1, d.before a0 Z = true) (ws : List Jvm.Cond) (a_IN a_WORKFLOW_IN a_WORKFLOW_OUT a_DERIVED a_PARAM a_OUT : Addr) (p1 : Int32) (h0 : Heap) (n0 : Nat) (hp : own_Pin Z h0 a_IN a_WORKFLOW_IN a_WORKFLOW_OUT a_DERIVED a_PARAM a_OUT) (hi : ((p1 &&& (2147483647 : Int32)) % (6 : Int32)) = (5 : Int32)) :
    MetFree l x (head1 (Jvm.Cond.code x code maxLocals ret :: ws) room_1) (fun a U => a = #[(.int p1)] ∧ Z.Warmed39 U.vm ∧ U.heap = h0) (fun _ _ _ _ _ => True) (fun _ U o U' => ∃ v L, o = .returned v ∧ own_Q (.int (1 : Int32)) h0 n0 v U'.heap L ∧ FrameEnd U o U' L room_1.cells room_1.slots) := by
  have hp' := hp
  obtain ⟨S_IN, S_WORKFLOW_IN, S_WORKFLOW_OUT, S_DERIVED, S_PARAM, S_OUT, E_IN, E_WORKFLOW_IN, E_WORKFLOW_OUT, E_DERIVED, E_PARAM, E_OUT, n_IN_WORKFLOW_IN, n_IN_WORKFLOW_OUT, n_IN_DERIVED, n_IN_PARAM, n_IN_OUT, n_WORKFLOW_IN_WORKFLOW_OUT, n_WORKFLOW_IN_DERIVED, n_WORKFLOW_IN_PARAM, n_WORKFLOW_IN_OUT, n_WORKFLOW_OUT_DERIVED, n_WORKFLOW_OUT_PARAM, n_WORKFLOW_OUT_OUT, n_DERIVED_PARAM, n_DERIVED_OUT, n_PARAM_OUT⟩ := hp'
  refine MetFree.of_bodySF (plainFor_of_name own_pn0) hisR ?_
  intro p e s m args below meth c s₁ Bd hml0 hP hK
  obtain ⟨rfl, hZ, hh⟩ := hP
  have hx := Bd.exec
  have hby := Bd.bytes
  have hml : c.maxLocals = 4 := hml0
  have hown : s.vm.findClass "com/example/covell/covell/model/PortRoleIsWorkflowPortPinLaw" = some m.cls := findClass_of_methodNamed Bd.named
  have X0 : Stand p l e room_1 s m #[(.int p1)] below meth c s₁ [] 0 0 := Stand.of_body Bd
  have e0 : s₁.heap = h0 := by rw [← hh, Bd.state]; rfl
  have N0 := Fr.nil n0
  have pre0 : ∀ t, Steps p.tables e below (s₁.setTop (mkF m 0 #[.val (.int p1), .unset, .unset, .unset] [])) t → Steps p.tables e below (s₁.setTop (entryFrame m #[(.int p1)] maxLocals)) t := fun t k => castTop (by first | (simp [entryFrame, mkF, argsToLocals, Value.category, maxLocals]; done) | rfl) k
  obtain ⟨_, _, ⟨T1, L1, k1, n1⟩, -, X1, ⟨Lc1, hQ1, l1, y1, z1⟩, st1⟩ := Jvm.LawKit.callS X0 hx (y := (⟨"com/example/covell/covell/model/PortRoleIsWorkflowPortPinLaw", "pick", "(I)Lcom/example/covell/covell/model/PortRole;"⟩ : MethodName)) hown (mvT hZ (hw _ (List.mem_of_getElem? (i := 1) rfl))) (mvT hZ (hw _ (List.mem_of_getElem? (i := 2) rfl))) (mvT hZ (hw _ (List.mem_of_getElem? (i := 3) rfl))) (mvT hZ (hw _ (List.mem_of_getElem? (i := 4) rfl))) (by decide) (backOf (W := 0) (own_b1_5 l Z a0 hw [] a_IN a_WORKFLOW_IN a_WORKFLOW_OUT a_DERIVED a_PARAM a_OUT  h0 n0 hp) hZ (hw _ (List.mem_of_getElem? (i := 4) rfl)) (hw _ (List.mem_of_getElem? (i := 3) rfl)) (by decide) (by decide)) (g := (mkF m 9 #[.val (.int p1), .val (.int (5 : Int32)), .unset, .unset] [(.int (5 : Int32))])) rfl (by rw [hml]; rfl) (argsL := [(.int (5 : Int32))]) (rest := []) (lenOf own_pd0 rfl) rfl (by show 2 * 0 + _ ≤ _; exact Nat.le_of_eq rfl) (hb hby at_9) (fun _ _ => ⟨rfl, e0, (by decide : 0 + 0 ≤ _), (by decide : 0 + 0 ≤ _)⟩)
  dsimp only [Pt.U, Pt.locs, Pt.cells, Pt.slots] at X1 l1 y1 z1 st1 hQ1
  subst l1 y1 z1
  obtain ⟨rfl, N1q, e1⟩ := hQ1
  have N1 := Fr.app N0 N1q
  obtain ⟨T2, X2, e2, st2⟩ := getS X1 hx hZ hown (host := "") (hw _ (List.mem_of_getElem? (i := 5) rfl)) Via.refl e1 S_IN (g := (mkF m 14 #[.val (.int p1), .val (.int (5 : Int32)), .val (.ref a_DERIVED), .unset] [(.ref a_DERIVED)])) rfl (hb hby at_14)
  obtain ⟨T3, X3, e3, st3⟩ := getS X2 hx hZ hown (host := "") (hw _ (List.mem_of_getElem? (i := 20) rfl)) Via.refl e2 S_PARAM (g := (mkF m 21 #[.val (.int p1), .val (.int (5 : Int32)), .val (.ref a_DERIVED), .unset] [(.ref a_DERIVED)])) rfl (hb hby at_21)
  obtain ⟨T4, X4, e4, st4⟩ := getS X3 hx hZ hown (host := "") (hw _ (List.mem_of_getElem? (i := 22) rfl)) Via.refl e3 S_OUT (g := (mkF m 28 #[.val (.int p1), .val (.int (5 : Int32)), .val (.ref a_DERIVED), .unset] [(.ref a_DERIVED)])) rfl (hb hby at_28)
  obtain ⟨cq5, kq5, q5a, q5b, q5c⟩ := isOf hZ e4 E_DERIVED
  obtain ⟨_, _, ⟨T5, L5, k5, n5⟩, -, X5, ⟨Lc5, hQ5, l5, y5, z5⟩, st5⟩ := X4.virtualBack hx (y := (⟨"com/example/covell/covell/model/PortRole", "isWorkflowPort", "()Z"⟩ : MethodName)) (z := (⟨"com/example/covell/covell/model/PortRole", "isWorkflowPort", "()Z"⟩ : MethodName)) hown (mvT hZ (hw _ (List.mem_of_getElem? (i := 8) rfl))) (mvT hZ (hw _ (List.mem_of_getElem? (i := 9) rfl))) (notFace_of_selects (args := #[]) (mvT hZ (hw _ (List.mem_of_getElem? (i := 11) rfl)))) (mvT hZ (hw _ (List.mem_of_getElem? (i := 11) rfl))) (mvT hZ (hw _ (List.mem_of_getElem? (i := 10) rfl))) (by decide) (backOf (W := 0) (own_b2_5 l Z a0 hw [] a_IN a_WORKFLOW_IN a_WORKFLOW_OUT a_DERIVED a_PARAM a_OUT  h0 n0 hp) hZ (hw _ (List.mem_of_getElem? (i := 12) rfl)) (hw _ (List.mem_of_getElem? (i := 6) rfl)) (by decide) (by decide)) q5a q5c (g := (mkF m 41 #[.val (.int p1), .val (.int (5 : Int32)), .val (.ref a_DERIVED), .val (.int (0 : Int32))] [(.ref a_DERIVED)])) rfl (by rw [hml]; rfl) (Steps.refl _) (argsL := []) (rest := []) (lenOf own_pd1 rfl) rfl (by show 2 * 0 + _ ≤ _; exact Nat.le_of_eq rfl) (hb hby at_41) (fun _ _ => ⟨rfl, e4, (by decide : 0 + 0 ≤ _), (by decide : 0 + 0 ≤ _)⟩)
  dsimp only [Pt.U, Pt.locs, Pt.cells, Pt.slots] at X5 l5 y5 z5 st5 hQ5
  subst l5 y5 z5
  obtain ⟨rfl, N5q, e5⟩ := hQ5
  have N5 := Fr.app N1 N5q
  obtain ⟨fs, hr, hrun, hended, hW, hsame⟩ := X5.leave (v := some (.int (1 : Int32))) (fun h => by rw [Bd.returns] at h; cases h)
  refine ⟨_, _, pre0 _ ?_, hrun, hended, _, _, rfl, ?_, ⟨_, rfl⟩, hW, hsame.mono (by decide) (by decide)⟩
  · show Steps p.tables e below (s₁.setTop (mkF m 0 #[.val (.int p1), .unset, .unset, .unset] [])) _
    refine XS.iloadN X0.here hx rfl (hb hby at_0) rfl ?_
    show Steps p.tables e below (s₁.setTop (mkF m 1 #[.val (.int p1), .unset, .unset, .unset] [(.int p1)])) _
    refine X0.ldcInt hx hown (mvT hZ (hw _ (List.mem_of_getElem? (i := 0) rfl))) (g := (mkF m 1 #[.val (.int p1), .unset, .unset, .unset] [(.int p1)])) rfl (hb hby at_1) _ ?_
    show Steps p.tables e below (s₁.setTop (mkF m 3 #[.val (.int p1), .unset, .unset, .unset] [(.int (2147483647 : Int32)), (.int p1)])) _
    refine XS.iand X0.here hx rfl (hb hby at_3) rfl ?_
    show Steps p.tables e below (s₁.setTop (mkF m 4 #[.val (.int p1), .unset, .unset, .unset] [(.int (p1 &&& (2147483647 : Int32)))])) _
    refine XS.bipush X0.here hx rfl (hb hby at_4) ?_
    show Steps p.tables e below (s₁.setTop (mkF m 6 #[.val (.int p1), .unset, .unset, .unset] [(.int (6 : Int32)), (.int (p1 &&& (2147483647 : Int32)))])) _
    refine iremM (g := (mkF m 6 #[.val (.int p1), .unset, .unset, .unset] [(.int (6 : Int32)), (.int (p1 &&& (2147483647 : Int32)))])) X0 hx rfl (hb hby at_6) rfl (by decide) ?_
    show Steps p.tables e below (s₁.setTop (mkF m 7 #[.val (.int p1), .unset, .unset, .unset] [(.int ((p1 &&& (2147483647 : Int32)) % (6 : Int32)))])) _
    rewrite [hi]
    show Steps p.tables e below (s₁.setTop (mkF m 7 #[.val (.int p1), .unset, .unset, .unset] [(.int (5 : Int32))])) _
    refine XS.istoreN X0.here hx rfl (hb hby at_7) rfl (l' := #[.val (.int p1), .val (.int (5 : Int32)), .unset, .unset]) rfl ?_
    show Steps p.tables e below (s₁.setTop (mkF m 8 #[.val (.int p1), .val (.int (5 : Int32)), .unset, .unset] [])) _
    refine XS.iloadN X0.here hx rfl (hb hby at_8) rfl ?_
    show Steps p.tables e below (s₁.setTop (mkF m 9 #[.val (.int p1), .val (.int (5 : Int32)), .unset, .unset] [(.int (5 : Int32))])) _
    refine st1 _ ?_
    show Steps p.tables e below (T1.setTop (mkF m 12 #[.val (.int p1), .val (.int (5 : Int32)), .unset, .unset] [(.ref a_DERIVED)])) _
    refine XS.astoreN X1.here hx rfl (hb hby at_12) rfl rfl (l' := #[.val (.int p1), .val (.int (5 : Int32)), .val (.ref a_DERIVED), .unset]) rfl ?_
    show Steps p.tables e below (T1.setTop (mkF m 13 #[.val (.int p1), .val (.int (5 : Int32)), .val (.ref a_DERIVED), .unset] [])) _
    refine XS.aloadN X1.here hx rfl (hb hby at_13) rfl rfl ?_
    show Steps p.tables e below (T1.setTop (mkF m 14 #[.val (.int p1), .val (.int (5 : Int32)), .val (.ref a_DERIVED), .unset] [(.ref a_DERIVED)])) _
    refine st2 _ ?_
    show Steps p.tables e below (T2.setTop (mkF m 17 #[.val (.int p1), .val (.int (5 : Int32)), .val (.ref a_DERIVED), .unset] [(.ref a_IN), (.ref a_DERIVED)])) _
    refine Jvm.RoadKit.acmp (g := (mkF m 17 #[.val (.int p1), .val (.int (5 : Int32)), .val (.ref a_DERIVED), .unset] [(.ref a_IN), (.ref a_DERIVED)])) X2 hx rfl rfl rfl (pc0 := 17) (pc' := 20) (same := false) rfl (hb hby at_17) rfl (decide_eq_false fun q => n_IN_DERIVED (Value.ref.inj q).symm) (by decide) (by decide) ?_
    show Steps p.tables e below (T2.setTop (mkF m 20 #[.val (.int p1), .val (.int (5 : Int32)), .val (.ref a_DERIVED), .unset] [])) _
    refine XS.aloadN X2.here hx rfl (hb hby at_20) rfl rfl ?_
    show Steps p.tables e below (T2.setTop (mkF m 21 #[.val (.int p1), .val (.int (5 : Int32)), .val (.ref a_DERIVED), .unset] [(.ref a_DERIVED)])) _
    refine st3 _ ?_
    show Steps p.tables e below (T3.setTop (mkF m 24 #[.val (.int p1), .val (.int (5 : Int32)), .val (.ref a_DERIVED), .unset] [(.ref a_PARAM), (.ref a_DERIVED)])) _
    refine Jvm.RoadKit.acmp (g := (mkF m 24 #[.val (.int p1), .val (.int (5 : Int32)), .val (.ref a_DERIVED), .unset] [(.ref a_PARAM), (.ref a_DERIVED)])) X3 hx rfl rfl rfl (pc0 := 24) (pc' := 27) (same := false) rfl (hb hby at_24) rfl (decide_eq_false fun q => n_DERIVED_PARAM (Value.ref.inj q)) (by decide) (by decide) ?_
    show Steps p.tables e below (T3.setTop (mkF m 27 #[.val (.int p1), .val (.int (5 : Int32)), .val (.ref a_DERIVED), .unset] [])) _
    refine XS.aloadN X3.here hx rfl (hb hby at_27) rfl rfl ?_
    show Steps p.tables e below (T3.setTop (mkF m 28 #[.val (.int p1), .val (.int (5 : Int32)), .val (.ref a_DERIVED), .unset] [(.ref a_DERIVED)])) _
    refine st4 _ ?_
    show Steps p.tables e below (T4.setTop (mkF m 31 #[.val (.int p1), .val (.int (5 : Int32)), .val (.ref a_DERIVED), .unset] [(.ref a_OUT), (.ref a_DERIVED)])) _
    refine Jvm.RoadKit.acmp (g := (mkF m 31 #[.val (.int p1), .val (.int (5 : Int32)), .val (.ref a_DERIVED), .unset] [(.ref a_OUT), (.ref a_DERIVED)])) X4 hx rfl rfl rfl (pc0 := 31) (pc' := 38) (same := false) rfl (hb hby at_31) rfl (decide_eq_false fun q => n_DERIVED_OUT (Value.ref.inj q)) (by decide) (by decide) ?_
    show Steps p.tables e below (T4.setTop (mkF m 38 #[.val (.int p1), .val (.int (5 : Int32)), .val (.ref a_DERIVED), .unset] [])) _
    refine XS.iconst X4.here hx rfl (hb hby at_38) ?_
    show Steps p.tables e below (T4.setTop (mkF m 39 #[.val (.int p1), .val (.int (5 : Int32)), .val (.ref a_DERIVED), .unset] [(.int (0 : Int32))])) _
    refine XS.istoreN X4.here hx rfl (hb hby at_39) rfl (l' := #[.val (.int p1), .val (.int (5 : Int32)), .val (.ref a_DERIVED), .val (.int (0 : Int32))]) rfl ?_
    show Steps p.tables e below (T4.setTop (mkF m 40 #[.val (.int p1), .val (.int (5 : Int32)), .val (.ref a_DERIVED), .val (.int (0 : Int32))] [])) _
    refine XS.aloadN X4.here hx rfl (hb hby at_40) rfl rfl ?_
    show Steps p.tables e below (T4.setTop (mkF m 41 #[.val (.int p1), .val (.int (5 : Int32)), .val (.ref a_DERIVED), .val (.int (0 : Int32))] [(.ref a_DERIVED)])) _
    refine st5.trans ?_
    show Steps p.tables e below (T5.setTop (mkF m 44 #[.val (.int p1), .val (.int (5 : Int32)), .val (.ref a_DERIVED), .val (.int (0 : Int32))] [(.int (1 : Int32))])) _
    refine XS.iloadN X5.here hx rfl (hb hby at_44) rfl ?_
    show Steps p.tables e below (T5.setTop (mkF m 45 #[.val (.int p1), .val (.int (5 : Int32)), .val (.ref a_DERIVED), .val (.int (0 : Int32))] [(.int (0 : Int32)), (.int (1 : Int32))])) _
    refine XS.ifNo X5.here hx rfl (hb hby at_45) rfl (by decide) ?_
    show Steps p.tables e below (T5.setTop (mkF m 48 #[.val (.int p1), .val (.int (5 : Int32)), .val (.ref a_DERIVED), .val (.int (0 : Int32))] [(.int (1 : Int32))])) _
    refine XS.iconst X5.here hx rfl (hb hby at_48) ?_
    show Steps p.tables e below (T5.setTop (mkF m 49 #[.val (.int p1), .val (.int (5 : Int32)), .val (.ref a_DERIVED), .val (.int (0 : Int32))] [(.int (1 : Int32)), (.int (1 : Int32))])) _
    refine XS.goto X5.here hx rfl (pc0 := 49) (pc' := 53) rfl (hb hby at_49) (by decide) (by decide) ?_
    show Steps p.tables e below (T5.setTop (mkF m 53 #[.val (.int p1), .val (.int (5 : Int32)), .val (.ref a_DERIVED), .val (.int (0 : Int32))] [(.int (1 : Int32)), (.int (1 : Int32))])) _
    refine XS.icmpNo X5.here hx rfl (hb hby at_53) rfl (by decide) ?_
    show Steps p.tables e below (T5.setTop (mkF m 56 #[.val (.int p1), .val (.int (5 : Int32)), .val (.ref a_DERIVED), .val (.int (0 : Int32))] [])) _
    refine XS.iconst X5.here hx rfl (hb hby at_56) ?_
    show Steps p.tables e below (T5.setTop (mkF m 57 #[.val (.int p1), .val (.int (5 : Int32)), .val (.ref a_DERIVED), .val (.int (0 : Int32))] [(.int (1 : Int32))])) _
    refine XS.goto X5.here hx rfl (pc0 := 57) (pc' := 61) rfl (hb hby at_57) (by decide) (by decide) ?_
    show Steps p.tables e below (T5.setTop (mkF m 61 #[.val (.int p1), .val (.int (5 : Int32)), .val (.ref a_DERIVED), .val (.int (0 : Int32))] [(.int (1 : Int32))])) _
    exact retN X5 hx (t := .boolean) Bd.returns (by simp) (hb hby at_61) hr
  · show own_Q _ h0 n0 _ T5.heap _
    exact ⟨rfl, N5, e5⟩
theorem own_law (l : Launch) (Z : State) (a0 : Array Value) (hw : ∀ d ∈ tables_1, d.before a0 Z = true) (ws : List Jvm.Cond) (a_IN a_WORKFLOW_IN a_WORKFLOW_OUT a_DERIVED a_PARAM a_OUT : Addr) (p1 : Int32) (h0 : Heap) (n0 : Nat) (hp : own_Pin Z h0 a_IN a_WORKFLOW_IN a_WORKFLOW_OUT a_DERIVED a_PARAM a_OUT) :
    MetFree l x (head1 (Jvm.Cond.code x code maxLocals ret :: ws) room_1) (fun a U => a = #[(.int p1)] ∧ Z.Warmed39 U.vm ∧ U.heap = h0) (fun _ _ _ _ _ => True) (fun _ U o U' => ∃ v L, o = .returned v ∧ own_Q (.int (1 : Int32)) h0 n0 v U'.heap L ∧ FrameEnd U o U' L room_1.cells room_1.slots) := by
  rcases own_few6 ((p1 &&& (2147483647 : Int32)) % (6 : Int32)) (own_rem p1 _ 6 (by decide) (by decide)).1 (own_rem p1 _ 6 (by decide) (by decide)).2 with hi | hi | hi | hi | hi | hi
  · exact own_law_0 l Z a0 hw ws a_IN a_WORKFLOW_IN a_WORKFLOW_OUT a_DERIVED a_PARAM a_OUT p1 h0 n0 hp hi
  · exact own_law_1 l Z a0 hw ws a_IN a_WORKFLOW_IN a_WORKFLOW_OUT a_DERIVED a_PARAM a_OUT p1 h0 n0 hp hi
  · exact own_law_2 l Z a0 hw ws a_IN a_WORKFLOW_IN a_WORKFLOW_OUT a_DERIVED a_PARAM a_OUT p1 h0 n0 hp hi
  · exact own_law_3 l Z a0 hw ws a_IN a_WORKFLOW_IN a_WORKFLOW_OUT a_DERIVED a_PARAM a_OUT p1 h0 n0 hp hi
  · exact own_law_4 l Z a0 hw ws a_IN a_WORKFLOW_IN a_WORKFLOW_OUT a_DERIVED a_PARAM a_OUT p1 h0 n0 hp hi
  · exact own_law_5 l Z a0 hw ws a_IN a_WORKFLOW_IN a_WORKFLOW_OUT a_DERIVED a_PARAM a_OUT p1 h0 n0 hp hi
set_option maxRecDepth 65536 in
set_option maxHeartbeats 40000000 in
theorem comes_1 {Post : Tables → Env → Array Value → State → Outcome → State → Prop} (hpost : ∀ tb e args s v u, (limb_1_1.after args s (.returned v) u = true ∧ limb_1_2.after args s (.returned v) u = true ∧ True) → FrameEnd s (.returned v) u (Jvm.fieldLocs frame_1_writes args s ++ Jvm.arrayLocs frame_1_arrays args s ++ Jvm.staticLocs frame_1_statics s) 0 0 → Post tb e args s (.returned v) u) :
    ArmFor flags0 classFile x code maxLocals ret World_1 tables_1 room_1 Calls_1 rest_1 Pre_1 Post := by
  intro l hfl _ _ p e ha hc hk s m args below hf hA hF happ hP
  obtain ⟨hcalls, hrest, hpre⟩ := hP
  obtain ⟨-, -, -, hnamed, -, -, -, hat⟩ := (Spec.applies_iff hf).mp happ
  obtain ⟨hg, hn⟩ := and_e (Cond.before_iff.mp (show (Jvm.Cond.and given_1 narrow_1).before args s = true from hpre))
  obtain ⟨g0, g1⟩ := and_e hg
  obtain ⟨w0, rfl⟩ : ∃ w0 : Value, args = #[w0] := by
    have hs : args.size = 1 := by simpa [Cond.value, given_1] using g0
    obtain ⟨L⟩ := args
    match L, hs with
    | [w0], _ => exact ⟨w0, rfl⟩
  have hw := fun d (hd : d ∈ tables_1) => atoms_spec (ws := Jvm.Cond.code x code maxLocals ret :: tables_1) hat d (List.mem_cons_of_mem _ hd)
  obtain ⟨i0, ei0⟩ := is_v g1
  obtain rfl : w0 = (.int i0) := Option.some.inj ei0
  obtain ⟨c0, r0⟩ := and_e hn
  obtain ⟨c1, r1⟩ := and_e r0
  obtain ⟨c2, r2⟩ := and_e r1
  obtain ⟨c3, r3⟩ := and_e r2
  obtain ⟨c4, r4⟩ := and_e r3
  obtain ⟨c5, r5⟩ := and_e r4
  obtain ⟨c6, r6⟩ := and_e r5
  obtain ⟨c7, r7⟩ := and_e r6
  obtain ⟨c8, r8⟩ := and_e r7
  obtain ⟨c9, r9⟩ := and_e r8
  obtain ⟨c10, r10⟩ := and_e r9
  have c11 := r10
  obtain ⟨a_IN, ev_IN⟩ := exa_v c0
  have E_IN : Exa s s.heap a_IN "com/example/covell/covell/model/PortRole" := Exa.start ev_IN c0
  have S_IN : Sta s s.heap "com/example/covell/covell/model/PortRole" "IN" "Lcom/example/covell/covell/model/PortRole;" (.ref a_IN) := Sta.start ev_IN (Or.inr ⟨(hw _ (List.mem_of_getElem? (i := 6) rfl)), (hw _ (List.mem_of_getElem? (i := 7) rfl))⟩)
  obtain ⟨a_WORKFLOW_IN, ev_WORKFLOW_IN⟩ := exa_v c1
  have E_WORKFLOW_IN : Exa s s.heap a_WORKFLOW_IN "com/example/covell/covell/model/PortRole" := Exa.start ev_WORKFLOW_IN c1
  have S_WORKFLOW_IN : Sta s s.heap "com/example/covell/covell/model/PortRole" "WORKFLOW_IN" "Lcom/example/covell/covell/model/PortRole;" (.ref a_WORKFLOW_IN) := Sta.start ev_WORKFLOW_IN (Or.inr ⟨(hw _ (List.mem_of_getElem? (i := 6) rfl)), (hw _ (List.mem_of_getElem? (i := 14) rfl))⟩)
  obtain ⟨a_WORKFLOW_OUT, ev_WORKFLOW_OUT⟩ := exa_v c4
  have E_WORKFLOW_OUT : Exa s s.heap a_WORKFLOW_OUT "com/example/covell/covell/model/PortRole" := Exa.start ev_WORKFLOW_OUT c4
  have S_WORKFLOW_OUT : Sta s s.heap "com/example/covell/covell/model/PortRole" "WORKFLOW_OUT" "Lcom/example/covell/covell/model/PortRole;" (.ref a_WORKFLOW_OUT) := Sta.start ev_WORKFLOW_OUT (Or.inr ⟨(hw _ (List.mem_of_getElem? (i := 6) rfl)), (hw _ (List.mem_of_getElem? (i := 16) rfl))⟩)
  obtain ⟨a_DERIVED, ev_DERIVED⟩ := exa_v c6
  have E_DERIVED : Exa s s.heap a_DERIVED "com/example/covell/covell/model/PortRole" := Exa.start ev_DERIVED c6
  have S_DERIVED : Sta s s.heap "com/example/covell/covell/model/PortRole" "DERIVED" "Lcom/example/covell/covell/model/PortRole;" (.ref a_DERIVED) := Sta.start ev_DERIVED (Or.inr ⟨(hw _ (List.mem_of_getElem? (i := 6) rfl)), (hw _ (List.mem_of_getElem? (i := 18) rfl))⟩)
  obtain ⟨a_PARAM, ev_PARAM⟩ := exa_v c8
  have E_PARAM : Exa s s.heap a_PARAM "com/example/covell/covell/model/PortRole" := Exa.start ev_PARAM c8
  have S_PARAM : Sta s s.heap "com/example/covell/covell/model/PortRole" "PARAM" "Lcom/example/covell/covell/model/PortRole;" (.ref a_PARAM) := Sta.start ev_PARAM (Or.inr ⟨(hw _ (List.mem_of_getElem? (i := 6) rfl)), (hw _ (List.mem_of_getElem? (i := 21) rfl))⟩)
  obtain ⟨a_OUT, ev_OUT⟩ := exa_v c10
  have E_OUT : Exa s s.heap a_OUT "com/example/covell/covell/model/PortRole" := Exa.start ev_OUT c10
  have S_OUT : Sta s s.heap "com/example/covell/covell/model/PortRole" "OUT" "Lcom/example/covell/covell/model/PortRole;" (.ref a_OUT) := Sta.start ev_OUT (Or.inr ⟨(hw _ (List.mem_of_getElem? (i := 6) rfl)), (hw _ (List.mem_of_getElem? (i := 23) rfl))⟩)
  have O_WORKFLOW_IN : s.fieldOf? a_WORKFLOW_IN "java/lang/Enum" "ordinal" "I" = some (.int (3 : Int32)) := own_fld ev_WORKFLOW_IN c2
  have O_IN : s.fieldOf? a_IN "java/lang/Enum" "ordinal" "I" = some (.int (0 : Int32)) := own_fld ev_IN c3
  have O_WORKFLOW_OUT : s.fieldOf? a_WORKFLOW_OUT "java/lang/Enum" "ordinal" "I" = some (.int (4 : Int32)) := own_fld ev_WORKFLOW_OUT c5
  have O_DERIVED : s.fieldOf? a_DERIVED "java/lang/Enum" "ordinal" "I" = some (.int (5 : Int32)) := own_fld ev_DERIVED c7
  have O_PARAM : s.fieldOf? a_PARAM "java/lang/Enum" "ordinal" "I" = some (.int (1 : Int32)) := own_fld ev_PARAM c9
  have O_OUT : s.fieldOf? a_OUT "java/lang/Enum" "ordinal" "I" = some (.int (2 : Int32)) := own_fld ev_OUT c11
  have n_IN_WORKFLOW_IN : ¬ (a_IN = a_WORKFLOW_IN) := own_ne O_IN O_WORKFLOW_IN (by decide)
  have n_IN_WORKFLOW_OUT : ¬ (a_IN = a_WORKFLOW_OUT) := own_ne O_IN O_WORKFLOW_OUT (by decide)
  have n_IN_DERIVED : ¬ (a_IN = a_DERIVED) := own_ne O_IN O_DERIVED (by decide)
  have n_IN_PARAM : ¬ (a_IN = a_PARAM) := own_ne O_IN O_PARAM (by decide)
  have n_IN_OUT : ¬ (a_IN = a_OUT) := own_ne O_IN O_OUT (by decide)
  have n_WORKFLOW_IN_WORKFLOW_OUT : ¬ (a_WORKFLOW_IN = a_WORKFLOW_OUT) := own_ne O_WORKFLOW_IN O_WORKFLOW_OUT (by decide)
  have n_WORKFLOW_IN_DERIVED : ¬ (a_WORKFLOW_IN = a_DERIVED) := own_ne O_WORKFLOW_IN O_DERIVED (by decide)
  have n_WORKFLOW_IN_PARAM : ¬ (a_WORKFLOW_IN = a_PARAM) := own_ne O_WORKFLOW_IN O_PARAM (by decide)
  have n_WORKFLOW_IN_OUT : ¬ (a_WORKFLOW_IN = a_OUT) := own_ne O_WORKFLOW_IN O_OUT (by decide)
  have n_WORKFLOW_OUT_DERIVED : ¬ (a_WORKFLOW_OUT = a_DERIVED) := own_ne O_WORKFLOW_OUT O_DERIVED (by decide)
  have n_WORKFLOW_OUT_PARAM : ¬ (a_WORKFLOW_OUT = a_PARAM) := own_ne O_WORKFLOW_OUT O_PARAM (by decide)
  have n_WORKFLOW_OUT_OUT : ¬ (a_WORKFLOW_OUT = a_OUT) := own_ne O_WORKFLOW_OUT O_OUT (by decide)
  have n_DERIVED_PARAM : ¬ (a_DERIVED = a_PARAM) := own_ne O_DERIVED O_PARAM (by decide)
  have n_DERIVED_OUT : ¬ (a_DERIVED = a_OUT) := own_ne O_DERIVED O_OUT (by decide)
  have n_PARAM_OUT : ¬ (a_PARAM = a_OUT) := own_ne O_PARAM O_OUT (by decide)
  obtain ⟨n, o, h1, h2, h3, _, L, rfl, ⟨rfl, N, -⟩, hq⟩ := own_law l s _ hw tables_1 a_IN a_WORKFLOW_IN a_WORKFLOW_OUT a_DERIVED a_PARAM a_OUT i0 s.heap s.heap.size ⟨S_IN, S_WORKFLOW_IN, S_WORKFLOW_OUT, S_DERIVED, S_PARAM, S_OUT, E_IN, E_WORKFLOW_IN, E_WORKFLOW_OUT, E_DERIVED, E_PARAM, E_OUT, n_IN_WORKFLOW_IN, n_IN_WORKFLOW_OUT, n_IN_DERIVED, n_IN_PARAM, n_IN_OUT, n_WORKFLOW_IN_WORKFLOW_OUT, n_WORKFLOW_IN_DERIVED, n_WORKFLOW_IN_PARAM, n_WORKFLOW_IN_OUT, n_WORKFLOW_OUT_DERIVED, n_WORKFLOW_OUT_PARAM, n_WORKFLOW_OUT_OUT, n_DERIVED_PARAM, n_DERIVED_OUT, n_PARAM_OUT⟩ p e ha hc hk s m _ below hf ((Spec.applies_iff_loose hf).mp happ).1 ⟨rfl, State.Warmed39.refl s, rfl⟩ trivial
  refine ⟨n, _, h1, h2, h3, hpost _ _ _ _ _ _ ⟨Cond.after_iff.mpr rfl, Cond.after_iff.mpr (eq_i res_at (Term.int_eval (1)) rfl), trivial⟩ ⟨hq.1, hq.2.1, (hq.2.2.sift fun y hy => Or.inr (N y hy)).mono (by decide) (by decide)⟩⟩
theorem main_1_1 : Claimed_1_1 := comes_1 fun _ _ _ _ _ _ h hF => ⟨h.1, hF⟩
theorem main_1_2 : Claimed_1_2 := comes_1 fun _ _ _ _ _ _ h hF => ⟨h.2.1, hF⟩
end Jvm.Pilot.@@N@@
namespace Jvm.Pilot.@@N@@
open Jvm Jvm.ClassFile Sem Op Lib Jvm.Free Jvm.Stand Jvm.Pilot.@@N@@.Jvm.D
/-! MADE BY PROGRAM (witnessworld.py) out of the Statement's table words and the real class files: 12 classes; the members and pool entries that the words name. The judged class is class 1, her method 2. -/
namespace start1
open Jvm.ClassFile
def u (s : String) : CpInfo := .utf8 (stringToUtf16 s)
/-- a pool by its gaps: so many unusable entries, then the entry; so many at the end -/
def gap : Nat → List CpInfo → List CpInfo
  | 0, r => r
  | n + 1, r => .unusable :: gap n r
def poolList (es : List (Nat × CpInfo)) (last : Nat) : List CpInfo := es.foldr (fun e r => gap e.1 (e.2 :: r)) (gap last [])
def pool (es : List (Nat × CpInfo)) (last : Nat) : Array CpInfo := ⟨poolList es last⟩
def fileOf (pool : Array CpInfo) (this : Nat) (attrs : Array Attribute := #[]) (ms : Array MethodInfo := #[]) (fl : Nat := 33) (sup : Nat := 0) (ifs : Array Nat := #[]) (fds : Array FieldInfo := #[]) : ClassFile where
  minorVersion := 0
  majorVersion := 65
  constantPool := pool
  accessFlags := fl
  thisClass := this
  superClass := sup
  interfaces := ifs
  fields := fds
  methods := ms
  attributes := attrs
def plain (name : String) (sup : Option ClassId) : Class where
  name := name
  kind := .ordinary
  loader := none
  accessFlags := 33
  super := sup
  interfaces := #[]
  cf := none
  fields := #[]
  methods := #[]
  instanceTypes := #[]
  staticTypes := #[]
  resolved := #[]
  callSites := []
  init := .initialized
  statics := none
  mirror := none

def pool0 : Array CpInfo := pool [(5, u "<init>"), (0, u "()V"), (1, .class_ 10), (1, u "java/lang/Object")] 113

def k0m0 : Method := { name := "<init>", desc := "()V", sig := { parameters := [], returnType := none }, accessFlags := 1, code := none }
/-- java/lang/Object -/
def k0 : Class := { plain "java/lang/Object" none with
  accessFlags := 33
  interfaces := #[]
  cf := some (fileOf pool0 8 #[] #[{ accessFlags := 1, nameIndex := 5, descriptorIndex := 6, attributes := #[] }] 33 0 #[] #[])
  fields := #[]
  methods := #[k0m0]
  instanceTypes := #[]
  staticTypes := #[]
  resolved := Array.replicate 124 none
  statics := none }

def pool1 : Array CpInfo := pool [(2, .class_ 4), (1, u "java/lang/Object"), (0, u "<init>"), (0, u "()V"), (0, .fieldref 8 9), (0, .class_ 10), (0, .nameAndType 11 12), (0, u "com/example/covell/covell/model/PortRole"), (0, u "IN"), (0, u "Lcom/example/covell/covell/model/PortRole;"), (0, .fieldref 8 14), (0, .nameAndType 15 12), (0, u "PARAM"), (0, .fieldref 8 17), (0, .nameAndType 18 12), (0, u "OUT"), (0, .fieldref 8 20), (0, .nameAndType 21 12), (0, u "WORKFLOW_IN"), (0, .fieldref 8 23), (0, .nameAndType 24 12), (0, u "WORKFLOW_OUT"), (0, .fieldref 8 26), (0, .nameAndType 27 12), (0, u "DERIVED"), (0, .integer 2147483647), (0, .methodref 30 31), (0, .class_ 32), (0, .nameAndType 33 34), (0, u "com/example/covell/covell/model/PortRoleIsWorkflowPortPinLaw"), (0, u "pick"), (0, u "(I)Lcom/example/covell/covell/model/PortRole;"), (0, .methodref 8 36), (0, .nameAndType 37 38), (0, u "isWorkflowPort"), (0, u "()Z"), (3, u "law"), (0, u "(I)Z")] 2

def k1m0 : Method := { name := "<init>", desc := "()V", sig := { parameters := [], returnType := none }, accessFlags := 2, code := none }
def k1c1 : Code := { maxStack := 2, maxLocals := 1, code := method_2_code, exceptionTable := #[], attributes := #[] }
def k1m1 : Method := { name := "pick", desc := "(I)Lcom/example/covell/covell/model/PortRole;", sig := { parameters := [.int], returnType := some (.object "com/example/covell/covell/model/PortRole") }, accessFlags := 10, code := some k1c1 }
def k1c2 : Code := { maxStack := 2, maxLocals := 4, code := code, exceptionTable := #[], attributes := #[] }
def k1m2 : Method := { name := "law", desc := "(I)Z", sig := { parameters := [.int], returnType := some .boolean }, accessFlags := 9, code := some k1c2 }
/-- com/example/covell/covell/model/PortRoleIsWorkflowPortPinLaw -/
def k1 : Class := { plain "com/example/covell/covell/model/PortRoleIsWorkflowPortPinLaw" (some 0) with
  accessFlags := 49
  interfaces := #[]
  cf := some (fileOf pool1 30 #[] #[{ accessFlags := 2, nameIndex := 5, descriptorIndex := 6, attributes := #[] }, { accessFlags := 10, nameIndex := 33, descriptorIndex := 34, attributes := #[] }, { accessFlags := 9, nameIndex := 42, descriptorIndex := 43, attributes := #[] }] 49 2 #[] #[])
  fields := #[]
  methods := #[k1m0, k1m1, k1m2]
  instanceTypes := #[]
  staticTypes := #[]
  resolved := Array.replicate 46 none
  statics := none }

def pool2 : Array CpInfo := pool [(1, .class_ 2), (0, u "java/lang/constant/Constable"), (0, .class_ 4), (0, u "java/lang/Object")] 6

/-- java/lang/constant/Constable -/
def k2 : Class := { plain "java/lang/constant/Constable" (some 0) with
  accessFlags := 1537
  interfaces := #[]
  cf := some (fileOf pool2 1 #[] #[] 1537 3 #[] #[])
  fields := #[]
  methods := #[]
  instanceTypes := #[]
  staticTypes := #[]
  resolved := Array.replicate 11 none
  statics := none }

def pool3 : Array CpInfo := pool [(1, .class_ 2), (0, u "java/lang/Comparable"), (0, .class_ 4), (0, u "java/lang/Object")] 7

/-- java/lang/Comparable -/
def k3 : Class := { plain "java/lang/Comparable" (some 0) with
  accessFlags := 1537
  interfaces := #[]
  cf := some (fileOf pool3 1 #[] #[] 1537 3 #[] #[])
  fields := #[]
  methods := #[]
  instanceTypes := #[]
  staticTypes := #[]
  resolved := Array.replicate 12 none
  statics := none }

def pool4 : Array CpInfo := pool [(1, .class_ 2), (0, u "java/io/Serializable"), (0, .class_ 4), (0, u "java/lang/Object")] 2

/-- java/io/Serializable -/
def k4 : Class := { plain "java/io/Serializable" (some 0) with
  accessFlags := 1537
  interfaces := #[]
  cf := some (fileOf pool4 1 #[] #[] 1537 3 #[] #[])
  fields := #[]
  methods := #[]
  instanceTypes := #[]
  staticTypes := #[]
  resolved := Array.replicate 7 none
  statics := none }

def pool5 : Array CpInfo := pool [(2, .class_ 4), (1, u "java/lang/Enum"), (0, u "name"), (0, u "Ljava/lang/String;"), (2, u "ordinal"), (0, u "I"), (1, .class_ 14), (1, u "java/lang/Object"), (4, u "hash"), (86, .class_ 108), (1, u "java/lang/Enum$EnumDesc"), (2, .class_ 112), (0, u "java/lang/constant/Constable"), (0, .class_ 114), (0, u "java/lang/Comparable"), (0, .class_ 116), (0, u "java/io/Serializable")] 87

/-- java/lang/Enum -/
def k5 : Class := { plain "java/lang/Enum" (some 0) with
  accessFlags := 1057
  interfaces := #[2, 3, 4]
  cf := some (fileOf pool5 2 #[.nestMembers #[106]] #[] 1057 12 #[111, 113, 115] #[{ accessFlags := 18, nameIndex := 5, descriptorIndex := 6, attributes := #[] }, { accessFlags := 18, nameIndex := 9, descriptorIndex := 10, attributes := #[] }, { accessFlags := 2, nameIndex := 19, descriptorIndex := 10, attributes := #[] }])
  fields := #[{ name := "name", type := (.object "java/lang/String"), accessFlags := 18, slot := 0, constantValue := 0 }, { name := "ordinal", type := .int, accessFlags := 18, slot := 1, constantValue := 0 }, { name := "hash", type := .int, accessFlags := 2, slot := 2, constantValue := 0 }]
  methods := #[]
  instanceTypes := #[(.object "java/lang/String"), .int, .int]
  staticTypes := #[]
  resolved := Array.replicate 204 none
  statics := none }

def pool6 : Array CpInfo := pool [(1, .class_ 2), (0, u "com/example/covell/covell/model/PortRole"), (2, u "IN"), (0, u "Lcom/example/covell/covell/model/PortRole;"), (2, u "PARAM"), (2, u "OUT"), (0, .fieldref 1 14), (0, .nameAndType 15 6), (0, u "WORKFLOW_IN"), (0, .fieldref 1 17), (0, .nameAndType 18 6), (0, u "WORKFLOW_OUT"), (0, .fieldref 1 20), (0, .nameAndType 21 6), (0, u "DERIVED"), (2, u "$VALUES"), (0, u "[Lcom/example/covell/covell/model/PortRole;"), (6, .class_ 34), (1, u "java/lang/Enum"), (8, u "word"), (0, u "Ljava/lang/String;"), (2, u "accepted"), (0, u "Lcom/example/covell/covell/model/EventKind;"), (2, u "inTextFormat"), (0, u "Z"), (58, u "isWorkflowPort"), (0, u "()Z")] 31

def k6c0 : Code := { maxStack := 2, maxLocals := 1, code := prog_86_method_6_code, exceptionTable := #[], attributes := #[] }
def k6m0 : Method := { name := "isWorkflowPort", desc := "()Z", sig := { parameters := [], returnType := some .boolean }, accessFlags := 1, code := some k6c0 }
/-- com/example/covell/covell/model/PortRole -/
def k6 : Class := { plain "com/example/covell/covell/model/PortRole" (some 5) with
  accessFlags := 16433
  interfaces := #[]
  cf := some (fileOf pool6 1 #[] #[{ accessFlags := 1, nameIndex := 111, descriptorIndex := 112, attributes := #[] }] 16433 32 #[] #[{ accessFlags := 16409, nameIndex := 5, descriptorIndex := 6, attributes := #[] }, { accessFlags := 16409, nameIndex := 9, descriptorIndex := 6, attributes := #[] }, { accessFlags := 16409, nameIndex := 12, descriptorIndex := 6, attributes := #[] }, { accessFlags := 16409, nameIndex := 15, descriptorIndex := 6, attributes := #[] }, { accessFlags := 16409, nameIndex := 18, descriptorIndex := 6, attributes := #[] }, { accessFlags := 16409, nameIndex := 21, descriptorIndex := 6, attributes := #[] }, { accessFlags := 18, nameIndex := 43, descriptorIndex := 44, attributes := #[] }, { accessFlags := 18, nameIndex := 47, descriptorIndex := 48, attributes := #[] }, { accessFlags := 18, nameIndex := 51, descriptorIndex := 52, attributes := #[] }, { accessFlags := 4122, nameIndex := 24, descriptorIndex := 25, attributes := #[] }])
  fields := #[{ name := "IN", type := (.object "com/example/covell/covell/model/PortRole"), accessFlags := 16409, slot := 0, constantValue := 0 }, { name := "PARAM", type := (.object "com/example/covell/covell/model/PortRole"), accessFlags := 16409, slot := 1, constantValue := 0 }, { name := "OUT", type := (.object "com/example/covell/covell/model/PortRole"), accessFlags := 16409, slot := 2, constantValue := 0 }, { name := "WORKFLOW_IN", type := (.object "com/example/covell/covell/model/PortRole"), accessFlags := 16409, slot := 3, constantValue := 0 }, { name := "WORKFLOW_OUT", type := (.object "com/example/covell/covell/model/PortRole"), accessFlags := 16409, slot := 4, constantValue := 0 }, { name := "DERIVED", type := (.object "com/example/covell/covell/model/PortRole"), accessFlags := 16409, slot := 5, constantValue := 0 }, { name := "word", type := (.object "java/lang/String"), accessFlags := 18, slot := 3, constantValue := 0 }, { name := "accepted", type := (.object "com/example/covell/covell/model/EventKind"), accessFlags := 18, slot := 4, constantValue := 0 }, { name := "inTextFormat", type := .boolean, accessFlags := 18, slot := 5, constantValue := 0 }, { name := "$VALUES", type := (.array (.object "com/example/covell/covell/model/PortRole")), accessFlags := 4122, slot := 6, constantValue := 0 }]
  methods := #[k6m0]
  instanceTypes := #[(.object "java/lang/String"), .int, .int, (.object "java/lang/String"), (.object "com/example/covell/covell/model/EventKind"), .boolean]
  staticTypes := #[(.object "com/example/covell/covell/model/PortRole"), (.object "com/example/covell/covell/model/PortRole"), (.object "com/example/covell/covell/model/PortRole"), (.object "com/example/covell/covell/model/PortRole"), (.object "com/example/covell/covell/model/PortRole"), (.object "com/example/covell/covell/model/PortRole"), (.array (.object "com/example/covell/covell/model/PortRole"))]
  resolved := Array.replicate 144 none
  statics := some 0 }

def pool7 : Array CpInfo := pool [(1, u "java/lang/Cloneable"), (0, .class_ 1), (0, u "java/lang/Object"), (0, .class_ 3)] 3

/-- java/lang/Cloneable -/
def k7 : Class := { plain "java/lang/Cloneable" (some 0) with
  accessFlags := 1537
  interfaces := #[]
  cf := some (fileOf pool7 2 #[] #[] 1537 4 #[] #[])
  fields := #[]
  methods := #[]
  instanceTypes := #[]
  staticTypes := #[]
  resolved := Array.replicate 8 none
  statics := none }

/-- the primitive byte -/
def k8 : Class := { plain "byte" none with kind := .primitive 'B', accessFlags := 0x411 }
/-- [B -/
def k9 : Class := { plain "[B" (some 0) with kind := .array 8 .byte, interfaces := #[7, 4], accessFlags := 1041 }

/-- the primitive int -/
def k10 : Class := { plain "int" none with kind := .primitive 'I', accessFlags := 0x411 }
/-- [I -/
def k11 : Class := { plain "[I" (some 0) with kind := .array 10 .int, interfaces := #[7, 4], accessFlags := 1041 }

def heap : Heap := #[{ cls := 6, slots := #[.ref 1, .ref 5, .ref 6, .ref 2, .ref 3, .ref 4, .null], vm := .statics 6 },
  { cls := 6, slots := #[.null, .int 0, .int 0, .null, .null, .int 0], vm := .none },
  { cls := 6, slots := #[.null, .int 3, .int 0, .null, .null, .int 0], vm := .none },
  { cls := 6, slots := #[.null, .int 4, .int 0, .null, .null, .int 0], vm := .none },
  { cls := 6, slots := #[.null, .int 5, .int 0, .null, .null, .int 0], vm := .none },
  { cls := 6, slots := #[.null, .int 1, .int 0, .null, .null, .int 0], vm := .none },
  { cls := 6, slots := #[.null, .int 2, .int 0, .null, .null, .int 0], vm := .none }]
def classes : Array Class := #[k0, k1, k2, k3, k4, k5, k6, k7, k8, k9, k10, k11]
def interned : List (Array UInt16 × Addr) := []
def slotsUsed : Nat := 43
def theMethod : MethodId := ⟨1, 2⟩
def args0 : Array Value := #[.int 5]
def aboutOver (below : List Frame) : State where
  vm := { classes := classes, interned := interned.toArray }
  heap := heap
  slotsUsed := slotsUsed
  threads := #[{ frames := .invoking theMethod args0 :: below }]
def below0 : List Frame := [.native { method := ⟨0, 0⟩, args := #[] }]
def about1 : State := aboutOver below0
def p0 : Program := .bare "" "" ""
def e0 : Env := launch0.env 0 0 0
theorem w_frames : about1.frames = Frame.invoking theMethod args0 :: below0 := rfl
set_option maxRecDepth 65536 in
theorem w_args : argsFit about1.vm theMethod args0 = true := by decide +kernel
set_option maxRecDepth 65536 in
theorem w_heap : heapFits about1 = true := by decide +kernel
set_option maxRecDepth 65536 in
theorem w_runnable : about1.curStatus? = some .runnable := by decide +kernel
set_option maxRecDepth 65536 in
theorem w_alone : about1.alone = true := by decide +kernel
set_option maxRecDepth 65536 in
theorem w_named : about1.methodNamed? x = some theMethod := by decide +kernel
set_option maxRecDepth 65536 in
theorem w_hears : about1.hears theMethod below0 = true := by decide +kernel
set_option maxRecDepth 65536 in
theorem w_ripe : about1.ripe theMethod args0 below0 = true := by decide +kernel
theorem w_running : about1.status = .running := rfl
set_option maxRecDepth 65536 in
theorem w_room : about1.hasRoom e0.platform room_1 = true :=
  launch0.hasRoom_least _ room_1 (by decide +kernel) (by decide +kernel) (by decide +kernel) (by decide +kernel) (by decide +kernel) (by decide +kernel)
theorem allAtoms_all (ts : List Jvm.Cond) (a : Array Jvm.Value) (st : Jvm.State) : (allAtoms ts).before a st = ts.all (fun c => c.before a st) := by
  induction ts with
  | nil => rfl
  | cons c t ih =>
    show (Jvm.Cond.and c (allAtoms t)).before a st = _
    rw [Jvm.Cond.before_and, ih, List.all_cons]
def words1 : List Jvm.Cond := Jvm.Cond.code x code maxLocals ret :: tables_1
/-- a 'code' word, met by the world's own term for the bytes: nothing is compared byte by byte -/
theorem code_word {y : MethodName} {bytes : ByteArray} {mx : Nat} {rt : Option FieldType} {a : Array Value} {s : State} {m : MethodId} {meth : Method} {c : Code} (h1 : s.methodNamed? y = some m) (h2 : s.vm.method? m = some meth) (h3 : meth.code = some c) (h4 : c.code = bytes)
    (h5 : (c.maxLocals == mx && c.exceptionTable.isEmpty && decide (c.maxStack ≤ mostOperands) && decide (meth.sig.returnType = rt) && !meth.locks && decide (parseMethodDescriptor y.desc = some meth.sig)) = true) : (Jvm.Cond.code y bytes mx rt).before a s = true := by
  simp only [Bool.and_eq_true, beq_iff_eq, Bool.not_eq_true', decide_eq_true_eq] at h5
  obtain ⟨⟨⟨⟨⟨g1, g2⟩, g3⟩, g4⟩, g5⟩, g6⟩ := h5
  simp [Cond.before, Cond.holds, Cond.value, h1, h2, h3, h4, g1, g2, g3, g4, g5, g6]
def isCode : Jvm.Cond → Bool
  | .code _ _ _ _ => true
  | _ => false
theorem all_split {L : List Jvm.Cond} {P : Jvm.Cond → Bool} (h1 : L.all (fun c => isCode c || P c) = true) (h2 : ∀ c ∈ L.filter isCode, P c = true) : L.all P = true := by
  refine List.all_eq_true.mpr fun c hc => ?_
  have h := List.all_eq_true.mp h1 c hc
  rcases Bool.eq_false_or_eq_true (isCode c) with hi | hi
  · exact h2 c (List.mem_filter.mpr ⟨hc, hi⟩)
  · simpa [hi] using h
set_option maxRecDepth 65536 in
theorem w_c0 : (Jvm.Cond.code x code maxLocals ret).before args0 about1 = true := code_word (m := ⟨1, 2⟩) (meth := k1m2) (c := k1c2) (by decide +kernel) rfl rfl rfl (by decide +kernel)
set_option maxRecDepth 65536 in
theorem w_c1 : (Jvm.Cond.code ({ cls := "com/example/covell/covell/model/PortRoleIsWorkflowPortPinLaw", name := "pick", desc := "(I)Lcom/example/covell/covell/model/PortRole;" } : Jvm.MethodName) method_2_code (1 : Nat) (Option.some (Jvm.ClassFile.FieldType.object "com/example/covell/covell/model/PortRole"))).before args0 about1 = true := code_word (m := ⟨1, 1⟩) (meth := k1m1) (c := k1c1) (by decide +kernel) rfl rfl rfl (by decide +kernel)
set_option maxRecDepth 65536 in
theorem w_c2 : (Jvm.Cond.code ({ cls := "com/example/covell/covell/model/PortRole", name := "isWorkflowPort", desc := "()Z" } : Jvm.MethodName) prog_86_method_6_code (1 : Nat) (Option.some Jvm.ClassFile.FieldType.boolean)).before args0 about1 = true := code_word (m := ⟨6, 0⟩) (meth := k6m0) (c := k6c0) (by decide +kernel) rfl rfl rfl (by decide +kernel)
def codes1 : List Jvm.Cond := [Jvm.Cond.code x code maxLocals ret, Jvm.Cond.code ({ cls := "com/example/covell/covell/model/PortRoleIsWorkflowPortPinLaw", name := "pick", desc := "(I)Lcom/example/covell/covell/model/PortRole;" } : Jvm.MethodName) method_2_code (1 : Nat) (Option.some (Jvm.ClassFile.FieldType.object "com/example/covell/covell/model/PortRole")), Jvm.Cond.code ({ cls := "com/example/covell/covell/model/PortRole", name := "isWorkflowPort", desc := "()Z" } : Jvm.MethodName) prog_86_method_6_code (1 : Nat) (Option.some Jvm.ClassFile.FieldType.boolean)]
set_option maxRecDepth 65536 in
theorem codes_eq : words1.filter isCode = codes1 := rfl
theorem w_codes : ∀ c ∈ words1.filter isCode, c.before args0 about1 = true := by
  rw [codes_eq]
  intro c hc
  simp only [codes1, List.mem_cons, List.not_mem_nil, or_false] at hc
  rcases hc with rfl | rfl | rfl
  · exact w_c0
  · exact w_c1
  · exact w_c2
set_option maxRecDepth 65536 in
theorem w_t1 : (words1.take 24).all (fun c => isCode c || c.before args0 about1) = true := by decide +kernel
set_option maxRecDepth 65536 in
theorem w_t2 : (words1.drop 24).all (fun c => isCode c || c.before args0 about1) = true := by decide +kernel
theorem w_tables : (allAtoms (Jvm.Cond.code x code maxLocals ret :: tables_1)).before args0 about1 = true := by
  rw [allAtoms_all]
  show words1.all (fun c => c.before args0 about1) = true
  refine all_split ?_ w_codes
  rw [← List.take_append_drop 24 words1, List.all_append, w_t1, w_t2]
  rfl
set_option maxRecDepth 65536 in
theorem w_case : (Jvm.Cond.and given_1 narrow_1).before args0 about1 = true := by decide +kernel
theorem w_applies : (headSpec (Jvm.Cond.code x code maxLocals ret :: tables_1) room_1).applies x e0.platform about1 = true :=
  (Spec.applies_iff w_frames).mpr ⟨w_running, w_runnable, w_alone, w_named, w_hears, w_ripe, w_room, w_tables⟩
theorem atStart : AtStart classFile x code maxLocals ret World_1 tables_1 room_1 Calls_1 rest_1 Pre_1 launch0 p0 e0 about1 theMethod args0 below0 :=
  ⟨lists_1, trivial, launch0.admits_env _ _ _, launch0.least_env, fairChoices_fair.cas, fairChoices_fair.clock, w_frames, w_args, w_heap, w_applies, trivial, trivial, w_case⟩
end start1
theorem witness_1 : WitnessClaimed_1 := ⟨start1.p0, start1.e0, start1.about1, start1.theMethod, start1.args0, start1.below0, start1.atStart⟩
end Jvm.Pilot.@@N@@
