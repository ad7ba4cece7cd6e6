import JvmDerived
import JvmDerived.Pilot.@@N@@Statement
import JvmDerived.Pilot.@@N@@Code
set_option linter.unusedVariables false
set_option linter.unusedSimpArgs false
namespace Jvm.Pilot.@@N@@
open Jvm Jvm.ClassFile Sem Op Lib Jvm.Free Jvm.Stand Jvm.LawKit Jvm.RoadKit Bundle Jvm.Pilot.@@N@@.Jvm.D
/-! the plain part: ints and identities -/
def own_Q (w : Value) (h0 : Heap) (n0 : Nat) (v : Option Value) (h : Heap) (L : List Loc) : Prop := v = some w ∧ Fr n0 L ∧ h = h0
theorem own_fld {args : Array Value} {s : State} {t : Term} {a : Addr} {C n d : String} {k : Int32} (ht : t.eval args s none [] s = some (.ref a)) (h : (Jvm.Cond.eq (.field t C n d) (.int k)).value args s none s [] = some true) : s.fieldOf? a C n d = some (.int k) := by
  obtain ⟨x, y, e1, e2, -, k2⟩ := cmp_v (Or.inl h)
  rw [Term.int_eval] at e2
  cases e2
  obtain ⟨z, rfl⟩ := k2
  have q : (Jvm.Cond.eq (.field t C n d) (.int k)).value args s none s [] = some (decide (z = k)) := Cond.eq_ints e1 (Term.int_eval k)
  have hz : z = k := gotT q h
  subst hz
  rw [fld_at ht] at e1
  exact e1
theorem own_ne {s : State} {a b : Addr} {C n d : String} {x y : Int32} (h1 : s.fieldOf? a C n d = some (.int x)) (h2 : s.fieldOf? b C n d = some (.int y)) (h : x ≠ y) : ¬ (a = b) := fun q => by
  subst q
  rw [h1] at h2
  exact h (Value.int.inj (Option.some.inj h2))
theorem own_eqR {args : Array Value} {s : State} {t u : Term} {b : Addr} (hu : u.eval args s none [] s = some (.ref b)) (h : (Jvm.Cond.eq t u).value args s none s [] = some true) : t.eval args s none [] s = some (.ref b) := by
  obtain ⟨x, y, e1, e2, -, k2⟩ := cmp_v (Or.inl h)
  rw [hu] at e2
  cases e2
  have q := eq_R e1 hu k2.2 rfl
  have hx : x = .ref b := gotT q h
  rw [e1, hx]
theorem own_few8 (x : Int32) (h0 : 0 ≤ x.toInt) (h1 : x.toInt < 8) : x = (0 : Int32) ∨ x = (1 : Int32) ∨ x = (2 : Int32) ∨ x = (3 : Int32) ∨ x = (4 : Int32) ∨ x = (5 : Int32) ∨ x = (6 : Int32) ∨ x = (7 : Int32) := by
  have q : x.toInt = 0 ∨ x.toInt = 1 ∨ x.toInt = 2 ∨ x.toInt = 3 ∨ x.toInt = 4 ∨ x.toInt = 5 ∨ x.toInt = 6 ∨ x.toInt = 7 := by omega
  rcases q with q | q | q | q | q | q | q | q
  · exact (Or.inl (Int32.toInt_inj.mp (q.trans (by decide))))
  · exact (Or.inr (Or.inl (Int32.toInt_inj.mp (q.trans (by decide)))))
  · exact (Or.inr (Or.inr (Or.inl (Int32.toInt_inj.mp (q.trans (by decide))))))
  · exact (Or.inr (Or.inr (Or.inr (Or.inl (Int32.toInt_inj.mp (q.trans (by decide)))))))
  · exact (Or.inr (Or.inr (Or.inr (Or.inr (Or.inl (Int32.toInt_inj.mp (q.trans (by decide))))))))
  · exact (Or.inr (Or.inr (Or.inr (Or.inr (Or.inr (Or.inl (Int32.toInt_inj.mp (q.trans (by decide)))))))))
  · exact (Or.inr (Or.inr (Or.inr (Or.inr (Or.inr (Or.inr (Or.inl (Int32.toInt_inj.mp (q.trans (by decide))))))))))
  · exact (Or.inr (Or.inr (Or.inr (Or.inr (Or.inr (Or.inr (Or.inr (Int32.toInt_inj.mp (q.trans (by decide))))))))))
def own_Pin (Z : State) (h : Heap) (a_DAILY a_MONTHLY a_SEMIANNUALLY a_ANNUALLY a_BIWEEKLY a_WEEKLY a_BIMONTHLY a_QUARTERLY a_U a_M : Addr) : Prop := Sta Z h "com/example/ledgerwheel/ledgerwheel/Frequency" "DAILY" "Lcom/example/ledgerwheel/ledgerwheel/Frequency;" (.ref a_DAILY) ∧ Sta Z h "com/example/ledgerwheel/ledgerwheel/Frequency" "MONTHLY" "Lcom/example/ledgerwheel/ledgerwheel/Frequency;" (.ref a_MONTHLY) ∧ Sta Z h "com/example/ledgerwheel/ledgerwheel/Frequency" "SEMIANNUALLY" "Lcom/example/ledgerwheel/ledgerwheel/Frequency;" (.ref a_SEMIANNUALLY) ∧ Sta Z h "com/example/ledgerwheel/ledgerwheel/Frequency" "ANNUALLY" "Lcom/example/ledgerwheel/ledgerwheel/Frequency;" (.ref a_ANNUALLY) ∧ Sta Z h "com/example/ledgerwheel/ledgerwheel/Frequency" "BIWEEKLY" "Lcom/example/ledgerwheel/ledgerwheel/Frequency;" (.ref a_BIWEEKLY) ∧ Sta Z h "com/example/ledgerwheel/ledgerwheel/Frequency" "WEEKLY" "Lcom/example/ledgerwheel/ledgerwheel/Frequency;" (.ref a_WEEKLY) ∧ Sta Z h "com/example/ledgerwheel/ledgerwheel/Frequency" "BIMONTHLY" "Lcom/example/ledgerwheel/ledgerwheel/Frequency;" (.ref a_BIMONTHLY) ∧ Sta Z h "com/example/ledgerwheel/ledgerwheel/Frequency" "QUARTERLY" "Lcom/example/ledgerwheel/ledgerwheel/Frequency;" (.ref a_QUARTERLY) ∧ Exa Z h a_DAILY "com/example/ledgerwheel/ledgerwheel/Frequency" ∧ Exa Z h a_MONTHLY "com/example/ledgerwheel/ledgerwheel/Frequency" ∧ Exa Z h a_SEMIANNUALLY "com/example/ledgerwheel/ledgerwheel/Frequency" ∧ Exa Z h a_ANNUALLY "com/example/ledgerwheel/ledgerwheel/Frequency" ∧ Exa Z h a_BIWEEKLY "com/example/ledgerwheel/ledgerwheel/Frequency" ∧ Exa Z h a_WEEKLY "com/example/ledgerwheel/ledgerwheel/Frequency" ∧ Exa Z h a_BIMONTHLY "com/example/ledgerwheel/ledgerwheel/Frequency" ∧ Exa Z h a_QUARTERLY "com/example/ledgerwheel/ledgerwheel/Frequency" ∧ Fld Z h a_DAILY "com/example/ledgerwheel/ledgerwheel/Frequency" "unit" "Ljava/time/temporal/ChronoUnit;" (.ref a_U) ∧ Fld Z h a_MONTHLY "com/example/ledgerwheel/ledgerwheel/Frequency" "unit" "Ljava/time/temporal/ChronoUnit;" (.ref a_M) ∧ Fld Z h a_SEMIANNUALLY "com/example/ledgerwheel/ledgerwheel/Frequency" "unit" "Ljava/time/temporal/ChronoUnit;" (.ref a_M) ∧ Fld Z h a_ANNUALLY "com/example/ledgerwheel/ledgerwheel/Frequency" "unit" "Ljava/time/temporal/ChronoUnit;" (.ref a_M) ∧ Fld Z h a_BIWEEKLY "com/example/ledgerwheel/ledgerwheel/Frequency" "unit" "Ljava/time/temporal/ChronoUnit;" (.ref a_U) ∧ Fld Z h a_WEEKLY "com/example/ledgerwheel/ledgerwheel/Frequency" "unit" "Ljava/time/temporal/ChronoUnit;" (.ref a_U) ∧ Fld Z h a_BIMONTHLY "com/example/ledgerwheel/ledgerwheel/Frequency" "unit" "Ljava/time/temporal/ChronoUnit;" (.ref a_M) ∧ Fld Z h a_QUARTERLY "com/example/ledgerwheel/ledgerwheel/Frequency" "unit" "Ljava/time/temporal/ChronoUnit;" (.ref a_M) ∧ Sta Z h "java/time/temporal/ChronoUnit" "MONTHS" "Ljava/time/temporal/ChronoUnit;" (.ref a_M) ∧ ¬ (a_U = a_M)
theorem own_pn0 : plainName "com/example/ledgerwheel/ledgerwheel/Frequency" = true := by first | (simp [plainName, overriddenIn]; done) | decide +kernel
theorem own_pn1 : plainName "com/example/ledgerwheel/ledgerwheel/FrequencyKeepsAnAnchorDayPinLaw" = true := by first | (simp [plainName, overriddenIn]; done) | decide +kernel
theorem own_pd0 : parseMethodDescriptor "()Z" = some ⟨[], (some .boolean)⟩ := by decide +kernel
theorem d1_0 : decode prog_28_method_5_code 0 = .ok (.aload_n 0, 1) := by decide +kernel
theorem d1_1 : decode prog_28_method_5_code 1 = .ok (.getfield 55, 3) := by decide +kernel
theorem d1_4 : decode prog_28_method_5_code 4 = .ok (.getstatic 71, 3) := by decide +kernel
theorem d1_7 : decode prog_28_method_5_code 7 = .ok (.if_acmp .ne 7, 3) := by decide +kernel
theorem d1_10 : decode prog_28_method_5_code 10 = .ok (.iconst 1, 1) := by decide +kernel
theorem d1_11 : decode prog_28_method_5_code 11 = .ok (.goto 4, 3) := by decide +kernel
theorem d1_14 : decode prog_28_method_5_code 14 = .ok (.iconst 0, 1) := by decide +kernel
theorem d1_15 : decode prog_28_method_5_code 15 = .ok (.ireturn, 1) := by decide +kernel
set_option maxRecDepth 65536 in
set_option maxHeartbeats 40000000 in
theorem own_b1_0 (l : Launch) (Z : State) (a0 : Array Value) (hw : ∀ d ∈ tables_1, d.before a0 Z = true) (ws : List Jvm.Cond) (a_DAILY a_MONTHLY a_SEMIANNUALLY a_ANNUALLY a_BIWEEKLY a_WEEKLY a_BIMONTHLY a_QUARTERLY a_U a_M : Addr)  (h0 : Heap) (n0 : Nat) (hp : own_Pin Z h0 a_DAILY a_MONTHLY a_SEMIANNUALLY a_ANNUALLY a_BIWEEKLY a_WEEKLY a_BIMONTHLY a_QUARTERLY a_U a_M) :
    MetFree l (⟨"com/example/ledgerwheel/ledgerwheel/Frequency", "keepsAnAnchorDay", "()Z"⟩ : MethodName) (head1 (Jvm.Cond.code (⟨"com/example/ledgerwheel/ledgerwheel/Frequency", "keepsAnAnchorDay", "()Z"⟩ : MethodName) prog_28_method_5_code 1 (some .boolean) :: ws) ({ frames := 0, cells := 0, slots := 0, locals := 0 } : Room)) (fun a U => a = #[(.ref a_DAILY)] ∧ Z.Warmed39 U.vm ∧ U.heap = h0) (fun _ _ _ _ _ => True) (fun _ U o U' => ∃ v L, o = .returned v ∧ own_Q (.int (0 : Int32)) h0 n0 v U'.heap L ∧ FrameEnd U o U' L ({ frames := 0, cells := 0, slots := 0, locals := 0 } : Room).cells ({ frames := 0, cells := 0, slots := 0, locals := 0 } : Room).slots) := by
  have hp' := hp
  obtain ⟨S_DAILY, S_MONTHLY, S_SEMIANNUALLY, S_ANNUALLY, S_BIWEEKLY, S_WEEKLY, S_BIMONTHLY, S_QUARTERLY, E_DAILY, E_MONTHLY, E_SEMIANNUALLY, E_ANNUALLY, E_BIWEEKLY, E_WEEKLY, E_BIMONTHLY, E_QUARTERLY, F_DAILY, F_MONTHLY, F_SEMIANNUALLY, F_ANNUALLY, F_BIWEEKLY, F_WEEKLY, F_BIMONTHLY, F_QUARTERLY, S_M, n_U_M⟩ := hp'
  refine MetFree.of_bodySF (plainFor_of_name own_pn0) hisR ?_
  intro p e s m args below meth c s₁ Bd hml0 hP hK
  obtain ⟨rfl, hZ, hh⟩ := hP
  have hx := Bd.exec
  have hby := Bd.bytes
  have hml : c.maxLocals = 1 := hml0
  have hown : s.vm.findClass "com/example/ledgerwheel/ledgerwheel/Frequency" = some m.cls := findClass_of_methodNamed Bd.named
  have X0 : Stand p l e ({ frames := 0, cells := 0, slots := 0, locals := 0 } : Room) s m #[(.ref a_DAILY)] below meth c s₁ [] 0 0 := Stand.of_body Bd
  have e0 : s₁.heap = h0 := by rw [← hh, Bd.state]; rfl
  have N0 := Fr.nil n0
  have pre0 : ∀ t, Steps p.tables e below (s₁.setTop (mkF m 0 #[.val (.ref a_DAILY)] [])) t → Steps p.tables e below (s₁.setTop (entryFrame m #[(.ref a_DAILY)] 1)) t := fun t k => castTop (by first | (simp [entryFrame, mkF, argsToLocals, Value.category]; done) | rfl) k
  obtain ⟨T1, X1, e1, st1⟩ := getF X0 hx hZ hown (host := "") (Or.inl (hw _ (List.mem_of_getElem? (i := 8) rfl))) Via.refl e0 F_DAILY (g := (mkF m 1 #[.val (.ref a_DAILY)] [(.ref a_DAILY)])) rfl rfl (hb hby d1_1)
  obtain ⟨T2, X2, e2, st2⟩ := getS X1 hx hZ hown (host := "") (hw _ (List.mem_of_getElem? (i := 10) rfl)) Via.refl e1 S_M (g := (mkF m 4 #[.val (.ref a_DAILY)] [(.ref a_U)])) rfl (hb hby d1_4)
  obtain ⟨fs, hr, hrun, hended, hW, hsame⟩ := X2.leave (v := some (.int (0 : Int32))) (fun h => by rw [Bd.returns] at h; cases h)
  refine ⟨_, _, pre0 _ ?_, hrun, hended, _, _, rfl, ?_, ⟨_, rfl⟩, hW, hsame.mono (by decide) (by decide)⟩
  · show Steps p.tables e below (s₁.setTop (mkF m 0 #[.val (.ref a_DAILY)] [])) _
    refine XS.aloadN X0.here hx rfl (hb hby d1_0) rfl rfl ?_
    show Steps p.tables e below (s₁.setTop (mkF m 1 #[.val (.ref a_DAILY)] [(.ref a_DAILY)])) _
    refine st1 _ ?_
    show Steps p.tables e below (T1.setTop (mkF m 4 #[.val (.ref a_DAILY)] [(.ref a_U)])) _
    refine st2 _ ?_
    show Steps p.tables e below (T2.setTop (mkF m 7 #[.val (.ref a_DAILY)] [(.ref a_M), (.ref a_U)])) _
    refine Jvm.RoadKit.acmp (g := (mkF m 7 #[.val (.ref a_DAILY)] [(.ref a_M), (.ref a_U)])) X2 hx rfl rfl rfl (pc0 := 7) (pc' := 14) (same := false) rfl (hb hby d1_7) rfl (decide_eq_false fun q => n_U_M (Value.ref.inj q)) (by decide) (by decide) ?_
    show Steps p.tables e below (T2.setTop (mkF m 14 #[.val (.ref a_DAILY)] [])) _
    refine XS.iconst X2.here hx rfl (hb hby d1_14) ?_
    show Steps p.tables e below (T2.setTop (mkF m 15 #[.val (.ref a_DAILY)] [(.int (0 : Int32))])) _
    exact retN X2 hx (t := .boolean) Bd.returns (by simp) (hb hby d1_15) hr
  · show own_Q _ h0 n0 _ T2.heap _
    exact ⟨rfl, N0, e2⟩
set_option maxRecDepth 65536 in
set_option maxHeartbeats 40000000 in
theorem own_b1_1 (l : Launch) (Z : State) (a0 : Array Value) (hw : ∀ d ∈ tables_1, d.before a0 Z = true) (ws : List Jvm.Cond) (a_DAILY a_MONTHLY a_SEMIANNUALLY a_ANNUALLY a_BIWEEKLY a_WEEKLY a_BIMONTHLY a_QUARTERLY a_U a_M : Addr)  (h0 : Heap) (n0 : Nat) (hp : own_Pin Z h0 a_DAILY a_MONTHLY a_SEMIANNUALLY a_ANNUALLY a_BIWEEKLY a_WEEKLY a_BIMONTHLY a_QUARTERLY a_U a_M) :
    MetFree l (⟨"com/example/ledgerwheel/ledgerwheel/Frequency", "keepsAnAnchorDay", "()Z"⟩ : MethodName) (head1 (Jvm.Cond.code (⟨"com/example/ledgerwheel/ledgerwheel/Frequency", "keepsAnAnchorDay", "()Z"⟩ : MethodName) prog_28_method_5_code 1 (some .boolean) :: ws) ({ frames := 0, cells := 0, slots := 0, locals := 0 } : Room)) (fun a U => a = #[(.ref a_WEEKLY)] ∧ Z.Warmed39 U.vm ∧ U.heap = h0) (fun _ _ _ _ _ => True) (fun _ U o U' => ∃ v L, o = .returned v ∧ own_Q (.int (0 : Int32)) h0 n0 v U'.heap L ∧ FrameEnd U o U' L ({ frames := 0, cells := 0, slots := 0, locals := 0 } : Room).cells ({ frames := 0, cells := 0, slots := 0, locals := 0 } : Room).slots) := by
  have hp' := hp
  obtain ⟨S_DAILY, S_MONTHLY, S_SEMIANNUALLY, S_ANNUALLY, S_BIWEEKLY, S_WEEKLY, S_BIMONTHLY, S_QUARTERLY, E_DAILY, E_MONTHLY, E_SEMIANNUALLY, E_ANNUALLY, E_BIWEEKLY, E_WEEKLY, E_BIMONTHLY, E_QUARTERLY, F_DAILY, F_MONTHLY, F_SEMIANNUALLY, F_ANNUALLY, F_BIWEEKLY, F_WEEKLY, F_BIMONTHLY, F_QUARTERLY, S_M, n_U_M⟩ := hp'
  refine MetFree.of_bodySF (plainFor_of_name own_pn0) hisR ?_
  intro p e s m args below meth c s₁ Bd hml0 hP hK
  obtain ⟨rfl, hZ, hh⟩ := hP
  have hx := Bd.exec
  have hby := Bd.bytes
  have hml : c.maxLocals = 1 := hml0
  have hown : s.vm.findClass "com/example/ledgerwheel/ledgerwheel/Frequency" = some m.cls := findClass_of_methodNamed Bd.named
  have X0 : Stand p l e ({ frames := 0, cells := 0, slots := 0, locals := 0 } : Room) s m #[(.ref a_WEEKLY)] below meth c s₁ [] 0 0 := Stand.of_body Bd
  have e0 : s₁.heap = h0 := by rw [← hh, Bd.state]; rfl
  have N0 := Fr.nil n0
  have pre0 : ∀ t, Steps p.tables e below (s₁.setTop (mkF m 0 #[.val (.ref a_WEEKLY)] [])) t → Steps p.tables e below (s₁.setTop (entryFrame m #[(.ref a_WEEKLY)] 1)) t := fun t k => castTop (by first | (simp [entryFrame, mkF, argsToLocals, Value.category]; done) | rfl) k
  obtain ⟨T1, X1, e1, st1⟩ := getF X0 hx hZ hown (host := "") (Or.inl (hw _ (List.mem_of_getElem? (i := 8) rfl))) Via.refl e0 F_WEEKLY (g := (mkF m 1 #[.val (.ref a_WEEKLY)] [(.ref a_WEEKLY)])) rfl rfl (hb hby d1_1)
  obtain ⟨T2, X2, e2, st2⟩ := getS X1 hx hZ hown (host := "") (hw _ (List.mem_of_getElem? (i := 10) rfl)) Via.refl e1 S_M (g := (mkF m 4 #[.val (.ref a_WEEKLY)] [(.ref a_U)])) rfl (hb hby d1_4)
  obtain ⟨fs, hr, hrun, hended, hW, hsame⟩ := X2.leave (v := some (.int (0 : Int32))) (fun h => by rw [Bd.returns] at h; cases h)
  refine ⟨_, _, pre0 _ ?_, hrun, hended, _, _, rfl, ?_, ⟨_, rfl⟩, hW, hsame.mono (by decide) (by decide)⟩
  · show Steps p.tables e below (s₁.setTop (mkF m 0 #[.val (.ref a_WEEKLY)] [])) _
    refine XS.aloadN X0.here hx rfl (hb hby d1_0) rfl rfl ?_
    show Steps p.tables e below (s₁.setTop (mkF m 1 #[.val (.ref a_WEEKLY)] [(.ref a_WEEKLY)])) _
    refine st1 _ ?_
    show Steps p.tables e below (T1.setTop (mkF m 4 #[.val (.ref a_WEEKLY)] [(.ref a_U)])) _
    refine st2 _ ?_
    show Steps p.tables e below (T2.setTop (mkF m 7 #[.val (.ref a_WEEKLY)] [(.ref a_M), (.ref a_U)])) _
    refine Jvm.RoadKit.acmp (g := (mkF m 7 #[.val (.ref a_WEEKLY)] [(.ref a_M), (.ref a_U)])) X2 hx rfl rfl rfl (pc0 := 7) (pc' := 14) (same := false) rfl (hb hby d1_7) rfl (decide_eq_false fun q => n_U_M (Value.ref.inj q)) (by decide) (by decide) ?_
    show Steps p.tables e below (T2.setTop (mkF m 14 #[.val (.ref a_WEEKLY)] [])) _
    refine XS.iconst X2.here hx rfl (hb hby d1_14) ?_
    show Steps p.tables e below (T2.setTop (mkF m 15 #[.val (.ref a_WEEKLY)] [(.int (0 : Int32))])) _
    exact retN X2 hx (t := .boolean) Bd.returns (by simp) (hb hby d1_15) hr
  · show own_Q _ h0 n0 _ T2.heap _
    exact ⟨rfl, N0, e2⟩
set_option maxRecDepth 65536 in
set_option maxHeartbeats 40000000 in
theorem own_b1_2 (l : Launch) (Z : State) (a0 : Array Value) (hw : ∀ d ∈ tables_1, d.before a0 Z = true) (ws : List Jvm.Cond) (a_DAILY a_MONTHLY a_SEMIANNUALLY a_ANNUALLY a_BIWEEKLY a_WEEKLY a_BIMONTHLY a_QUARTERLY a_U a_M : Addr)  (h0 : Heap) (n0 : Nat) (hp : own_Pin Z h0 a_DAILY a_MONTHLY a_SEMIANNUALLY a_ANNUALLY a_BIWEEKLY a_WEEKLY a_BIMONTHLY a_QUARTERLY a_U a_M) :
    MetFree l (⟨"com/example/ledgerwheel/ledgerwheel/Frequency", "keepsAnAnchorDay", "()Z"⟩ : MethodName) (head1 (Jvm.Cond.code (⟨"com/example/ledgerwheel/ledgerwheel/Frequency", "keepsAnAnchorDay", "()Z"⟩ : MethodName) prog_28_method_5_code 1 (some .boolean) :: ws) ({ frames := 0, cells := 0, slots := 0, locals := 0 } : Room)) (fun a U => a = #[(.ref a_BIWEEKLY)] ∧ Z.Warmed39 U.vm ∧ U.heap = h0) (fun _ _ _ _ _ => True) (fun _ U o U' => ∃ v L, o = .returned v ∧ own_Q (.int (0 : Int32)) h0 n0 v U'.heap L ∧ FrameEnd U o U' L ({ frames := 0, cells := 0, slots := 0, locals := 0 } : Room).cells ({ frames := 0, cells := 0, slots := 0, locals := 0 } : Room).slots) := by
  have hp' := hp
  obtain ⟨S_DAILY, S_MONTHLY, S_SEMIANNUALLY, S_ANNUALLY, S_BIWEEKLY, S_WEEKLY, S_BIMONTHLY, S_QUARTERLY, E_DAILY, E_MONTHLY, E_SEMIANNUALLY, E_ANNUALLY, E_BIWEEKLY, E_WEEKLY, E_BIMONTHLY, E_QUARTERLY, F_DAILY, F_MONTHLY, F_SEMIANNUALLY, F_ANNUALLY, F_BIWEEKLY, F_WEEKLY, F_BIMONTHLY, F_QUARTERLY, S_M, n_U_M⟩ := hp'
  refine MetFree.of_bodySF (plainFor_of_name own_pn0) hisR ?_
  intro p e s m args below meth c s₁ Bd hml0 hP hK
  obtain ⟨rfl, hZ, hh⟩ := hP
  have hx := Bd.exec
  have hby := Bd.bytes
  have hml : c.maxLocals = 1 := hml0
  have hown : s.vm.findClass "com/example/ledgerwheel/ledgerwheel/Frequency" = some m.cls := findClass_of_methodNamed Bd.named
  have X0 : Stand p l e ({ frames := 0, cells := 0, slots := 0, locals := 0 } : Room) s m #[(.ref a_BIWEEKLY)] below meth c s₁ [] 0 0 := Stand.of_body Bd
  have e0 : s₁.heap = h0 := by rw [← hh, Bd.state]; rfl
  have N0 := Fr.nil n0
  have pre0 : ∀ t, Steps p.tables e below (s₁.setTop (mkF m 0 #[.val (.ref a_BIWEEKLY)] [])) t → Steps p.tables e below (s₁.setTop (entryFrame m #[(.ref a_BIWEEKLY)] 1)) t := fun t k => castTop (by first | (simp [entryFrame, mkF, argsToLocals, Value.category]; done) | rfl) k
  obtain ⟨T1, X1, e1, st1⟩ := getF X0 hx hZ hown (host := "") (Or.inl (hw _ (List.mem_of_getElem? (i := 8) rfl))) Via.refl e0 F_BIWEEKLY (g := (mkF m 1 #[.val (.ref a_BIWEEKLY)] [(.ref a_BIWEEKLY)])) rfl rfl (hb hby d1_1)
  obtain ⟨T2, X2, e2, st2⟩ := getS X1 hx hZ hown (host := "") (hw _ (List.mem_of_getElem? (i := 10) rfl)) Via.refl e1 S_M (g := (mkF m 4 #[.val (.ref a_BIWEEKLY)] [(.ref a_U)])) rfl (hb hby d1_4)
  obtain ⟨fs, hr, hrun, hended, hW, hsame⟩ := X2.leave (v := some (.int (0 : Int32))) (fun h => by rw [Bd.returns] at h; cases h)
  refine ⟨_, _, pre0 _ ?_, hrun, hended, _, _, rfl, ?_, ⟨_, rfl⟩, hW, hsame.mono (by decide) (by decide)⟩
  · show Steps p.tables e below (s₁.setTop (mkF m 0 #[.val (.ref a_BIWEEKLY)] [])) _
    refine XS.aloadN X0.here hx rfl (hb hby d1_0) rfl rfl ?_
    show Steps p.tables e below (s₁.setTop (mkF m 1 #[.val (.ref a_BIWEEKLY)] [(.ref a_BIWEEKLY)])) _
    refine st1 _ ?_
    show Steps p.tables e below (T1.setTop (mkF m 4 #[.val (.ref a_BIWEEKLY)] [(.ref a_U)])) _
    refine st2 _ ?_
    show Steps p.tables e below (T2.setTop (mkF m 7 #[.val (.ref a_BIWEEKLY)] [(.ref a_M), (.ref a_U)])) _
    refine Jvm.RoadKit.acmp (g := (mkF m 7 #[.val (.ref a_BIWEEKLY)] [(.ref a_M), (.ref a_U)])) X2 hx rfl rfl rfl (pc0 := 7) (pc' := 14) (same := false) rfl (hb hby d1_7) rfl (decide_eq_false fun q => n_U_M (Value.ref.inj q)) (by decide) (by decide) ?_
    show Steps p.tables e below (T2.setTop (mkF m 14 #[.val (.ref a_BIWEEKLY)] [])) _
    refine XS.iconst X2.here hx rfl (hb hby d1_14) ?_
    show Steps p.tables e below (T2.setTop (mkF m 15 #[.val (.ref a_BIWEEKLY)] [(.int (0 : Int32))])) _
    exact retN X2 hx (t := .boolean) Bd.returns (by simp) (hb hby d1_15) hr
  · show own_Q _ h0 n0 _ T2.heap _
    exact ⟨rfl, N0, e2⟩
set_option maxRecDepth 65536 in
set_option maxHeartbeats 40000000 in
theorem own_b1_3 (l : Launch) (Z : State) (a0 : Array Value) (hw : ∀ d ∈ tables_1, d.before a0 Z = true) (ws : List Jvm.Cond) (a_DAILY a_MONTHLY a_SEMIANNUALLY a_ANNUALLY a_BIWEEKLY a_WEEKLY a_BIMONTHLY a_QUARTERLY a_U a_M : Addr)  (h0 : Heap) (n0 : Nat) (hp : own_Pin Z h0 a_DAILY a_MONTHLY a_SEMIANNUALLY a_ANNUALLY a_BIWEEKLY a_WEEKLY a_BIMONTHLY a_QUARTERLY a_U a_M) :
    MetFree l (⟨"com/example/ledgerwheel/ledgerwheel/Frequency", "keepsAnAnchorDay", "()Z"⟩ : MethodName) (head1 (Jvm.Cond.code (⟨"com/example/ledgerwheel/ledgerwheel/Frequency", "keepsAnAnchorDay", "()Z"⟩ : MethodName) prog_28_method_5_code 1 (some .boolean) :: ws) ({ frames := 0, cells := 0, slots := 0, locals := 0 } : Room)) (fun a U => a = #[(.ref a_MONTHLY)] ∧ Z.Warmed39 U.vm ∧ U.heap = h0) (fun _ _ _ _ _ => True) (fun _ U o U' => ∃ v L, o = .returned v ∧ own_Q (.int (1 : Int32)) h0 n0 v U'.heap L ∧ FrameEnd U o U' L ({ frames := 0, cells := 0, slots := 0, locals := 0 } : Room).cells ({ frames := 0, cells := 0, slots := 0, locals := 0 } : Room).slots) := by
  have hp' := hp
  obtain ⟨S_DAILY, S_MONTHLY, S_SEMIANNUALLY, S_ANNUALLY, S_BIWEEKLY, S_WEEKLY, S_BIMONTHLY, S_QUARTERLY, E_DAILY, E_MONTHLY, E_SEMIANNUALLY, E_ANNUALLY, E_BIWEEKLY, E_WEEKLY, E_BIMONTHLY, E_QUARTERLY, F_DAILY, F_MONTHLY, F_SEMIANNUALLY, F_ANNUALLY, F_BIWEEKLY, F_WEEKLY, F_BIMONTHLY, F_QUARTERLY, S_M, n_U_M⟩ := hp'
  refine MetFree.of_bodySF (plainFor_of_name own_pn0) hisR ?_
  intro p e s m args below meth c s₁ Bd hml0 hP hK
  obtain ⟨rfl, hZ, hh⟩ := hP
  have hx := Bd.exec
  have hby := Bd.bytes
  have hml : c.maxLocals = 1 := hml0
  have hown : s.vm.findClass "com/example/ledgerwheel/ledgerwheel/Frequency" = some m.cls := findClass_of_methodNamed Bd.named
  have X0 : Stand p l e ({ frames := 0, cells := 0, slots := 0, locals := 0 } : Room) s m #[(.ref a_MONTHLY)] below meth c s₁ [] 0 0 := Stand.of_body Bd
  have e0 : s₁.heap = h0 := by rw [← hh, Bd.state]; rfl
  have N0 := Fr.nil n0
  have pre0 : ∀ t, Steps p.tables e below (s₁.setTop (mkF m 0 #[.val (.ref a_MONTHLY)] [])) t → Steps p.tables e below (s₁.setTop (entryFrame m #[(.ref a_MONTHLY)] 1)) t := fun t k => castTop (by first | (simp [entryFrame, mkF, argsToLocals, Value.category]; done) | rfl) k
  obtain ⟨T1, X1, e1, st1⟩ := getF X0 hx hZ hown (host := "") (Or.inl (hw _ (List.mem_of_getElem? (i := 8) rfl))) Via.refl e0 F_MONTHLY (g := (mkF m 1 #[.val (.ref a_MONTHLY)] [(.ref a_MONTHLY)])) rfl rfl (hb hby d1_1)
  obtain ⟨T2, X2, e2, st2⟩ := getS X1 hx hZ hown (host := "") (hw _ (List.mem_of_getElem? (i := 10) rfl)) Via.refl e1 S_M (g := (mkF m 4 #[.val (.ref a_MONTHLY)] [(.ref a_M)])) rfl (hb hby d1_4)
  obtain ⟨fs, hr, hrun, hended, hW, hsame⟩ := X2.leave (v := some (.int (1 : Int32))) (fun h => by rw [Bd.returns] at h; cases h)
  refine ⟨_, _, pre0 _ ?_, hrun, hended, _, _, rfl, ?_, ⟨_, rfl⟩, hW, hsame.mono (by decide) (by decide)⟩
  · show Steps p.tables e below (s₁.setTop (mkF m 0 #[.val (.ref a_MONTHLY)] [])) _
    refine XS.aloadN X0.here hx rfl (hb hby d1_0) rfl rfl ?_
    show Steps p.tables e below (s₁.setTop (mkF m 1 #[.val (.ref a_MONTHLY)] [(.ref a_MONTHLY)])) _
    refine st1 _ ?_
    show Steps p.tables e below (T1.setTop (mkF m 4 #[.val (.ref a_MONTHLY)] [(.ref a_M)])) _
    refine st2 _ ?_
    show Steps p.tables e below (T2.setTop (mkF m 7 #[.val (.ref a_MONTHLY)] [(.ref a_M), (.ref a_M)])) _
    refine Jvm.RoadKit.acmp (g := (mkF m 7 #[.val (.ref a_MONTHLY)] [(.ref a_M), (.ref a_M)])) X2 hx rfl rfl rfl (pc0 := 7) (pc' := 10) (same := true) rfl (hb hby d1_7) rfl (decide_eq_true rfl) (by decide) (by decide) ?_
    show Steps p.tables e below (T2.setTop (mkF m 10 #[.val (.ref a_MONTHLY)] [])) _
    refine XS.iconst X2.here hx rfl (hb hby d1_10) ?_
    show Steps p.tables e below (T2.setTop (mkF m 11 #[.val (.ref a_MONTHLY)] [(.int (1 : Int32))])) _
    refine XS.goto X2.here hx rfl (pc0 := 11) (pc' := 15) rfl (hb hby d1_11) (by decide) (by decide) ?_
    show Steps p.tables e below (T2.setTop (mkF m 15 #[.val (.ref a_MONTHLY)] [(.int (1 : Int32))])) _
    exact retN X2 hx (t := .boolean) Bd.returns (by simp) (hb hby d1_15) hr
  · show own_Q _ h0 n0 _ T2.heap _
    exact ⟨rfl, N0, e2⟩
set_option maxRecDepth 65536 in
set_option maxHeartbeats 40000000 in
theorem own_b1_4 (l : Launch) (Z : State) (a0 : Array Value) (hw : ∀ d ∈ tables_1, d.before a0 Z = true) (ws : List Jvm.Cond) (a_DAILY a_MONTHLY a_SEMIANNUALLY a_ANNUALLY a_BIWEEKLY a_WEEKLY a_BIMONTHLY a_QUARTERLY a_U a_M : Addr)  (h0 : Heap) (n0 : Nat) (hp : own_Pin Z h0 a_DAILY a_MONTHLY a_SEMIANNUALLY a_ANNUALLY a_BIWEEKLY a_WEEKLY a_BIMONTHLY a_QUARTERLY a_U a_M) :
    MetFree l (⟨"com/example/ledgerwheel/ledgerwheel/Frequency", "keepsAnAnchorDay", "()Z"⟩ : MethodName) (head1 (Jvm.Cond.code (⟨"com/example/ledgerwheel/ledgerwheel/Frequency", "keepsAnAnchorDay", "()Z"⟩ : MethodName) prog_28_method_5_code 1 (some .boolean) :: ws) ({ frames := 0, cells := 0, slots := 0, locals := 0 } : Room)) (fun a U => a = #[(.ref a_BIMONTHLY)] ∧ Z.Warmed39 U.vm ∧ U.heap = h0) (fun _ _ _ _ _ => True) (fun _ U o U' => ∃ v L, o = .returned v ∧ own_Q (.int (1 : Int32)) h0 n0 v U'.heap L ∧ FrameEnd U o U' L ({ frames := 0, cells := 0, slots := 0, locals := 0 } : Room).cells ({ frames := 0, cells := 0, slots := 0, locals := 0 } : Room).slots) := by
  have hp' := hp
  obtain ⟨S_DAILY, S_MONTHLY, S_SEMIANNUALLY, S_ANNUALLY, S_BIWEEKLY, S_WEEKLY, S_BIMONTHLY, S_QUARTERLY, E_DAILY, E_MONTHLY, E_SEMIANNUALLY, E_ANNUALLY, E_BIWEEKLY, E_WEEKLY, E_BIMONTHLY, E_QUARTERLY, F_DAILY, F_MONTHLY, F_SEMIANNUALLY, F_ANNUALLY, F_BIWEEKLY, F_WEEKLY, F_BIMONTHLY, F_QUARTERLY, S_M, n_U_M⟩ := hp'
  refine MetFree.of_bodySF (plainFor_of_name own_pn0) hisR ?_
  intro p e s m args below meth c s₁ Bd hml0 hP hK
  obtain ⟨rfl, hZ, hh⟩ := hP
  have hx := Bd.exec
  have hby := Bd.bytes
  have hml : c.maxLocals = 1 := hml0
  have hown : s.vm.findClass "com/example/ledgerwheel/ledgerwheel/Frequency" = some m.cls := findClass_of_methodNamed Bd.named
  have X0 : Stand p l e ({ frames := 0, cells := 0, slots := 0, locals := 0 } : Room) s m #[(.ref a_BIMONTHLY)] below meth c s₁ [] 0 0 := Stand.of_body Bd
  have e0 : s₁.heap = h0 := by rw [← hh, Bd.state]; rfl
  have N0 := Fr.nil n0
  have pre0 : ∀ t, Steps p.tables e below (s₁.setTop (mkF m 0 #[.val (.ref a_BIMONTHLY)] [])) t → Steps p.tables e below (s₁.setTop (entryFrame m #[(.ref a_BIMONTHLY)] 1)) t := fun t k => castTop (by first | (simp [entryFrame, mkF, argsToLocals, Value.category]; done) | rfl) k
  obtain ⟨T1, X1, e1, st1⟩ := getF X0 hx hZ hown (host := "") (Or.inl (hw _ (List.mem_of_getElem? (i := 8) rfl))) Via.refl e0 F_BIMONTHLY (g := (mkF m 1 #[.val (.ref a_BIMONTHLY)] [(.ref a_BIMONTHLY)])) rfl rfl (hb hby d1_1)
  obtain ⟨T2, X2, e2, st2⟩ := getS X1 hx hZ hown (host := "") (hw _ (List.mem_of_getElem? (i := 10) rfl)) Via.refl e1 S_M (g := (mkF m 4 #[.val (.ref a_BIMONTHLY)] [(.ref a_M)])) rfl (hb hby d1_4)
  obtain ⟨fs, hr, hrun, hended, hW, hsame⟩ := X2.leave (v := some (.int (1 : Int32))) (fun h => by rw [Bd.returns] at h; cases h)
  refine ⟨_, _, pre0 _ ?_, hrun, hended, _, _, rfl, ?_, ⟨_, rfl⟩, hW, hsame.mono (by decide) (by decide)⟩
  · show Steps p.tables e below (s₁.setTop (mkF m 0 #[.val (.ref a_BIMONTHLY)] [])) _
    refine XS.aloadN X0.here hx rfl (hb hby d1_0) rfl rfl ?_
    show Steps p.tables e below (s₁.setTop (mkF m 1 #[.val (.ref a_BIMONTHLY)] [(.ref a_BIMONTHLY)])) _
    refine st1 _ ?_
    show Steps p.tables e below (T1.setTop (mkF m 4 #[.val (.ref a_BIMONTHLY)] [(.ref a_M)])) _
    refine st2 _ ?_
    show Steps p.tables e below (T2.setTop (mkF m 7 #[.val (.ref a_BIMONTHLY)] [(.ref a_M), (.ref a_M)])) _
    refine Jvm.RoadKit.acmp (g := (mkF m 7 #[.val (.ref a_BIMONTHLY)] [(.ref a_M), (.ref a_M)])) X2 hx rfl rfl rfl (pc0 := 7) (pc' := 10) (same := true) rfl (hb hby d1_7) rfl (decide_eq_true rfl) (by decide) (by decide) ?_
    show Steps p.tables e below (T2.setTop (mkF m 10 #[.val (.ref a_BIMONTHLY)] [])) _
    refine XS.iconst X2.here hx rfl (hb hby d1_10) ?_
    show Steps p.tables e below (T2.setTop (mkF m 11 #[.val (.ref a_BIMONTHLY)] [(.int (1 : Int32))])) _
    refine XS.goto X2.here hx rfl (pc0 := 11) (pc' := 15) rfl (hb hby d1_11) (by decide) (by decide) ?_
    show Steps p.tables e below (T2.setTop (mkF m 15 #[.val (.ref a_BIMONTHLY)] [(.int (1 : Int32))])) _
    exact retN X2 hx (t := .boolean) Bd.returns (by simp) (hb hby d1_15) hr
  · show own_Q _ h0 n0 _ T2.heap _
    exact ⟨rfl, N0, e2⟩
set_option maxRecDepth 65536 in
set_option maxHeartbeats 40000000 in
theorem own_b1_5 (l : Launch) (Z : State) (a0 : Array Value) (hw : ∀ d ∈ tables_1, d.before a0 Z = true) (ws : List Jvm.Cond) (a_DAILY a_MONTHLY a_SEMIANNUALLY a_ANNUALLY a_BIWEEKLY a_WEEKLY a_BIMONTHLY a_QUARTERLY a_U a_M : Addr)  (h0 : Heap) (n0 : Nat) (hp : own_Pin Z h0 a_DAILY a_MONTHLY a_SEMIANNUALLY a_ANNUALLY a_BIWEEKLY a_WEEKLY a_BIMONTHLY a_QUARTERLY a_U a_M) :
    MetFree l (⟨"com/example/ledgerwheel/ledgerwheel/Frequency", "keepsAnAnchorDay", "()Z"⟩ : MethodName) (head1 (Jvm.Cond.code (⟨"com/example/ledgerwheel/ledgerwheel/Frequency", "keepsAnAnchorDay", "()Z"⟩ : MethodName) prog_28_method_5_code 1 (some .boolean) :: ws) ({ frames := 0, cells := 0, slots := 0, locals := 0 } : Room)) (fun a U => a = #[(.ref a_QUARTERLY)] ∧ Z.Warmed39 U.vm ∧ U.heap = h0) (fun _ _ _ _ _ => True) (fun _ U o U' => ∃ v L, o = .returned v ∧ own_Q (.int (1 : Int32)) h0 n0 v U'.heap L ∧ FrameEnd U o U' L ({ frames := 0, cells := 0, slots := 0, locals := 0 } : Room).cells ({ frames := 0, cells := 0, slots := 0, locals := 0 } : Room).slots) := by
  have hp' := hp
  obtain ⟨S_DAILY, S_MONTHLY, S_SEMIANNUALLY, S_ANNUALLY, S_BIWEEKLY, S_WEEKLY, S_BIMONTHLY, S_QUARTERLY, E_DAILY, E_MONTHLY, E_SEMIANNUALLY, E_ANNUALLY, E_BIWEEKLY, E_WEEKLY, E_BIMONTHLY, E_QUARTERLY, F_DAILY, F_MONTHLY, F_SEMIANNUALLY, F_ANNUALLY, F_BIWEEKLY, F_WEEKLY, F_BIMONTHLY, F_QUARTERLY, S_M, n_U_M⟩ := hp'
  refine MetFree.of_bodySF (plainFor_of_name own_pn0) hisR ?_
  intro p e s m args below meth c s₁ Bd hml0 hP hK
  obtain ⟨rfl, hZ, hh⟩ := hP
  have hx := Bd.exec
  have hby := Bd.bytes
  have hml : c.maxLocals = 1 := hml0
  have hown : s.vm.findClass "com/example/ledgerwheel/ledgerwheel/Frequency" = some m.cls := findClass_of_methodNamed Bd.named
  have X0 : Stand p l e ({ frames := 0, cells := 0, slots := 0, locals := 0 } : Room) s m #[(.ref a_QUARTERLY)] below meth c s₁ [] 0 0 := Stand.of_body Bd
  have e0 : s₁.heap = h0 := by rw [← hh, Bd.state]; rfl
  have N0 := Fr.nil n0
  have pre0 : ∀ t, Steps p.tables e below (s₁.setTop (mkF m 0 #[.val (.ref a_QUARTERLY)] [])) t → Steps p.tables e below (s₁.setTop (entryFrame m #[(.ref a_QUARTERLY)] 1)) t := fun t k => castTop (by first | (simp [entryFrame, mkF, argsToLocals, Value.category]; done) | rfl) k
  obtain ⟨T1, X1, e1, st1⟩ := getF X0 hx hZ hown (host := "") (Or.inl (hw _ (List.mem_of_getElem? (i := 8) rfl))) Via.refl e0 F_QUARTERLY (g := (mkF m 1 #[.val (.ref a_QUARTERLY)] [(.ref a_QUARTERLY)])) rfl rfl (hb hby d1_1)
  obtain ⟨T2, X2, e2, st2⟩ := getS X1 hx hZ hown (host := "") (hw _ (List.mem_of_getElem? (i := 10) rfl)) Via.refl e1 S_M (g := (mkF m 4 #[.val (.ref a_QUARTERLY)] [(.ref a_M)])) rfl (hb hby d1_4)
  obtain ⟨fs, hr, hrun, hended, hW, hsame⟩ := X2.leave (v := some (.int (1 : Int32))) (fun h => by rw [Bd.returns] at h; cases h)
  refine ⟨_, _, pre0 _ ?_, hrun, hended, _, _, rfl, ?_, ⟨_, rfl⟩, hW, hsame.mono (by decide) (by decide)⟩
  · show Steps p.tables e below (s₁.setTop (mkF m 0 #[.val (.ref a_QUARTERLY)] [])) _
    refine XS.aloadN X0.here hx rfl (hb hby d1_0) rfl rfl ?_
    show Steps p.tables e below (s₁.setTop (mkF m 1 #[.val (.ref a_QUARTERLY)] [(.ref a_QUARTERLY)])) _
    refine st1 _ ?_
    show Steps p.tables e below (T1.setTop (mkF m 4 #[.val (.ref a_QUARTERLY)] [(.ref a_M)])) _
    refine st2 _ ?_
    show Steps p.tables e below (T2.setTop (mkF m 7 #[.val (.ref a_QUARTERLY)] [(.ref a_M), (.ref a_M)])) _
    refine Jvm.RoadKit.acmp (g := (mkF m 7 #[.val (.ref a_QUARTERLY)] [(.ref a_M), (.ref a_M)])) X2 hx rfl rfl rfl (pc0 := 7) (pc' := 10) (same := true) rfl (hb hby d1_7) rfl (decide_eq_true rfl) (by decide) (by decide) ?_
    show Steps p.tables e below (T2.setTop (mkF m 10 #[.val (.ref a_QUARTERLY)] [])) _
    refine XS.iconst X2.here hx rfl (hb hby d1_10) ?_
    show Steps p.tables e below (T2.setTop (mkF m 11 #[.val (.ref a_QUARTERLY)] [(.int (1 : Int32))])) _
    refine XS.goto X2.here hx rfl (pc0 := 11) (pc' := 15) rfl (hb hby d1_11) (by decide) (by decide) ?_
    show Steps p.tables e below (T2.setTop (mkF m 15 #[.val (.ref a_QUARTERLY)] [(.int (1 : Int32))])) _
    exact retN X2 hx (t := .boolean) Bd.returns (by simp) (hb hby d1_15) hr
  · show own_Q _ h0 n0 _ T2.heap _
    exact ⟨rfl, N0, e2⟩
set_option maxRecDepth 65536 in
set_option maxHeartbeats 40000000 in
theorem own_b1_6 (l : Launch) (Z : State) (a0 : Array Value) (hw : ∀ d ∈ tables_1, d.before a0 Z = true) (ws : List Jvm.Cond) (a_DAILY a_MONTHLY a_SEMIANNUALLY a_ANNUALLY a_BIWEEKLY a_WEEKLY a_BIMONTHLY a_QUARTERLY a_U a_M : Addr)  (h0 : Heap) (n0 : Nat) (hp : own_Pin Z h0 a_DAILY a_MONTHLY a_SEMIANNUALLY a_ANNUALLY a_BIWEEKLY a_WEEKLY a_BIMONTHLY a_QUARTERLY a_U a_M) :
    MetFree l (⟨"com/example/ledgerwheel/ledgerwheel/Frequency", "keepsAnAnchorDay", "()Z"⟩ : MethodName) (head1 (Jvm.Cond.code (⟨"com/example/ledgerwheel/ledgerwheel/Frequency", "keepsAnAnchorDay", "()Z"⟩ : MethodName) prog_28_method_5_code 1 (some .boolean) :: ws) ({ frames := 0, cells := 0, slots := 0, locals := 0 } : Room)) (fun a U => a = #[(.ref a_SEMIANNUALLY)] ∧ Z.Warmed39 U.vm ∧ U.heap = h0) (fun _ _ _ _ _ => True) (fun _ U o U' => ∃ v L, o = .returned v ∧ own_Q (.int (1 : Int32)) h0 n0 v U'.heap L ∧ FrameEnd U o U' L ({ frames := 0, cells := 0, slots := 0, locals := 0 } : Room).cells ({ frames := 0, cells := 0, slots := 0, locals := 0 } : Room).slots) := by
  have hp' := hp
  obtain ⟨S_DAILY, S_MONTHLY, S_SEMIANNUALLY, S_ANNUALLY, S_BIWEEKLY, S_WEEKLY, S_BIMONTHLY, S_QUARTERLY, E_DAILY, E_MONTHLY, E_SEMIANNUALLY, E_ANNUALLY, E_BIWEEKLY, E_WEEKLY, E_BIMONTHLY, E_QUARTERLY, F_DAILY, F_MONTHLY, F_SEMIANNUALLY, F_ANNUALLY, F_BIWEEKLY, F_WEEKLY, F_BIMONTHLY, F_QUARTERLY, S_M, n_U_M⟩ := hp'
  refine MetFree.of_bodySF (plainFor_of_name own_pn0) hisR ?_
  intro p e s m args below meth c s₁ Bd hml0 hP hK
  obtain ⟨rfl, hZ, hh⟩ := hP
  have hx := Bd.exec
  have hby := Bd.bytes
  have hml : c.maxLocals = 1 := hml0
  have hown : s.vm.findClass "com/example/ledgerwheel/ledgerwheel/Frequency" = some m.cls := findClass_of_methodNamed Bd.named
  have X0 : Stand p l e ({ frames := 0, cells := 0, slots := 0, locals := 0 } : Room) s m #[(.ref a_SEMIANNUALLY)] below meth c s₁ [] 0 0 := Stand.of_body Bd
  have e0 : s₁.heap = h0 := by rw [← hh, Bd.state]; rfl
  have N0 := Fr.nil n0
  have pre0 : ∀ t, Steps p.tables e below (s₁.setTop (mkF m 0 #[.val (.ref a_SEMIANNUALLY)] [])) t → Steps p.tables e below (s₁.setTop (entryFrame m #[(.ref a_SEMIANNUALLY)] 1)) t := fun t k => castTop (by first | (simp [entryFrame, mkF, argsToLocals, Value.category]; done) | rfl) k
  obtain ⟨T1, X1, e1, st1⟩ := getF X0 hx hZ hown (host := "") (Or.inl (hw _ (List.mem_of_getElem? (i := 8) rfl))) Via.refl e0 F_SEMIANNUALLY (g := (mkF m 1 #[.val (.ref a_SEMIANNUALLY)] [(.ref a_SEMIANNUALLY)])) rfl rfl (hb hby d1_1)
  obtain ⟨T2, X2, e2, st2⟩ := getS X1 hx hZ hown (host := "") (hw _ (List.mem_of_getElem? (i := 10) rfl)) Via.refl e1 S_M (g := (mkF m 4 #[.val (.ref a_SEMIANNUALLY)] [(.ref a_M)])) rfl (hb hby d1_4)
  obtain ⟨fs, hr, hrun, hended, hW, hsame⟩ := X2.leave (v := some (.int (1 : Int32))) (fun h => by rw [Bd.returns] at h; cases h)
  refine ⟨_, _, pre0 _ ?_, hrun, hended, _, _, rfl, ?_, ⟨_, rfl⟩, hW, hsame.mono (by decide) (by decide)⟩
  · show Steps p.tables e below (s₁.setTop (mkF m 0 #[.val (.ref a_SEMIANNUALLY)] [])) _
    refine XS.aloadN X0.here hx rfl (hb hby d1_0) rfl rfl ?_
    show Steps p.tables e below (s₁.setTop (mkF m 1 #[.val (.ref a_SEMIANNUALLY)] [(.ref a_SEMIANNUALLY)])) _
    refine st1 _ ?_
    show Steps p.tables e below (T1.setTop (mkF m 4 #[.val (.ref a_SEMIANNUALLY)] [(.ref a_M)])) _
    refine st2 _ ?_
    show Steps p.tables e below (T2.setTop (mkF m 7 #[.val (.ref a_SEMIANNUALLY)] [(.ref a_M), (.ref a_M)])) _
    refine Jvm.RoadKit.acmp (g := (mkF m 7 #[.val (.ref a_SEMIANNUALLY)] [(.ref a_M), (.ref a_M)])) X2 hx rfl rfl rfl (pc0 := 7) (pc' := 10) (same := true) rfl (hb hby d1_7) rfl (decide_eq_true rfl) (by decide) (by decide) ?_
    show Steps p.tables e below (T2.setTop (mkF m 10 #[.val (.ref a_SEMIANNUALLY)] [])) _
    refine XS.iconst X2.here hx rfl (hb hby d1_10) ?_
    show Steps p.tables e below (T2.setTop (mkF m 11 #[.val (.ref a_SEMIANNUALLY)] [(.int (1 : Int32))])) _
    refine XS.goto X2.here hx rfl (pc0 := 11) (pc' := 15) rfl (hb hby d1_11) (by decide) (by decide) ?_
    show Steps p.tables e below (T2.setTop (mkF m 15 #[.val (.ref a_SEMIANNUALLY)] [(.int (1 : Int32))])) _
    exact retN X2 hx (t := .boolean) Bd.returns (by simp) (hb hby d1_15) hr
  · show own_Q _ h0 n0 _ T2.heap _
    exact ⟨rfl, N0, e2⟩
set_option maxRecDepth 65536 in
set_option maxHeartbeats 40000000 in
theorem own_b1_7 (l : Launch) (Z : State) (a0 : Array Value) (hw : ∀ d ∈ tables_1, d.before a0 Z = true) (ws : List Jvm.Cond) (a_DAILY a_MONTHLY a_SEMIANNUALLY a_ANNUALLY a_BIWEEKLY a_WEEKLY a_BIMONTHLY a_QUARTERLY a_U a_M : Addr)  (h0 : Heap) (n0 : Nat) (hp : own_Pin Z h0 a_DAILY a_MONTHLY a_SEMIANNUALLY a_ANNUALLY a_BIWEEKLY a_WEEKLY a_BIMONTHLY a_QUARTERLY a_U a_M) :
    MetFree l (⟨"com/example/ledgerwheel/ledgerwheel/Frequency", "keepsAnAnchorDay", "()Z"⟩ : MethodName) (head1 (Jvm.Cond.code (⟨"com/example/ledgerwheel/ledgerwheel/Frequency", "keepsAnAnchorDay", "()Z"⟩ : MethodName) prog_28_method_5_code 1 (some .boolean) :: ws) ({ frames := 0, cells := 0, slots := 0, locals := 0 } : Room)) (fun a U => a = #[(.ref a_ANNUALLY)] ∧ Z.Warmed39 U.vm ∧ U.heap = h0) (fun _ _ _ _ _ => True) (fun _ U o U' => ∃ v L, o = .returned v ∧ own_Q (.int (1 : Int32)) h0 n0 v U'.heap L ∧ FrameEnd U o U' L ({ frames := 0, cells := 0, slots := 0, locals := 0 } : Room).cells ({ frames := 0, cells := 0, slots := 0, locals := 0 } : Room).slots) := by
  have hp' := hp
  obtain ⟨S_DAILY, S_MONTHLY, S_SEMIANNUALLY, S_ANNUALLY, S_BIWEEKLY, S_WEEKLY, S_BIMONTHLY, S_QUARTERLY, E_DAILY, E_MONTHLY, E_SEMIANNUALLY, E_ANNUALLY, E_BIWEEKLY, E_WEEKLY, E_BIMONTHLY, E_QUARTERLY, F_DAILY, F_MONTHLY, F_SEMIANNUALLY, F_ANNUALLY, F_BIWEEKLY, F_WEEKLY, F_BIMONTHLY, F_QUARTERLY, S_M, n_U_M⟩ := hp'
  refine MetFree.of_bodySF (plainFor_of_name own_pn0) hisR ?_
  intro p e s m args below meth c s₁ Bd hml0 hP hK
  obtain ⟨rfl, hZ, hh⟩ := hP
  have hx := Bd.exec
  have hby := Bd.bytes
  have hml : c.maxLocals = 1 := hml0
  have hown : s.vm.findClass "com/example/ledgerwheel/ledgerwheel/Frequency" = some m.cls := findClass_of_methodNamed Bd.named
  have X0 : Stand p l e ({ frames := 0, cells := 0, slots := 0, locals := 0 } : Room) s m #[(.ref a_ANNUALLY)] below meth c s₁ [] 0 0 := Stand.of_body Bd
  have e0 : s₁.heap = h0 := by rw [← hh, Bd.state]; rfl
  have N0 := Fr.nil n0
  have pre0 : ∀ t, Steps p.tables e below (s₁.setTop (mkF m 0 #[.val (.ref a_ANNUALLY)] [])) t → Steps p.tables e below (s₁.setTop (entryFrame m #[(.ref a_ANNUALLY)] 1)) t := fun t k => castTop (by first | (simp [entryFrame, mkF, argsToLocals, Value.category]; done) | rfl) k
  obtain ⟨T1, X1, e1, st1⟩ := getF X0 hx hZ hown (host := "") (Or.inl (hw _ (List.mem_of_getElem? (i := 8) rfl))) Via.refl e0 F_ANNUALLY (g := (mkF m 1 #[.val (.ref a_ANNUALLY)] [(.ref a_ANNUALLY)])) rfl rfl (hb hby d1_1)
  obtain ⟨T2, X2, e2, st2⟩ := getS X1 hx hZ hown (host := "") (hw _ (List.mem_of_getElem? (i := 10) rfl)) Via.refl e1 S_M (g := (mkF m 4 #[.val (.ref a_ANNUALLY)] [(.ref a_M)])) rfl (hb hby d1_4)
  obtain ⟨fs, hr, hrun, hended, hW, hsame⟩ := X2.leave (v := some (.int (1 : Int32))) (fun h => by rw [Bd.returns] at h; cases h)
  refine ⟨_, _, pre0 _ ?_, hrun, hended, _, _, rfl, ?_, ⟨_, rfl⟩, hW, hsame.mono (by decide) (by decide)⟩
  · show Steps p.tables e below (s₁.setTop (mkF m 0 #[.val (.ref a_ANNUALLY)] [])) _
    refine XS.aloadN X0.here hx rfl (hb hby d1_0) rfl rfl ?_
    show Steps p.tables e below (s₁.setTop (mkF m 1 #[.val (.ref a_ANNUALLY)] [(.ref a_ANNUALLY)])) _
    refine st1 _ ?_
    show Steps p.tables e below (T1.setTop (mkF m 4 #[.val (.ref a_ANNUALLY)] [(.ref a_M)])) _
    refine st2 _ ?_
    show Steps p.tables e below (T2.setTop (mkF m 7 #[.val (.ref a_ANNUALLY)] [(.ref a_M), (.ref a_M)])) _
    refine Jvm.RoadKit.acmp (g := (mkF m 7 #[.val (.ref a_ANNUALLY)] [(.ref a_M), (.ref a_M)])) X2 hx rfl rfl rfl (pc0 := 7) (pc' := 10) (same := true) rfl (hb hby d1_7) rfl (decide_eq_true rfl) (by decide) (by decide) ?_
    show Steps p.tables e below (T2.setTop (mkF m 10 #[.val (.ref a_ANNUALLY)] [])) _
    refine XS.iconst X2.here hx rfl (hb hby d1_10) ?_
    show Steps p.tables e below (T2.setTop (mkF m 11 #[.val (.ref a_ANNUALLY)] [(.int (1 : Int32))])) _
    refine XS.goto X2.here hx rfl (pc0 := 11) (pc' := 15) rfl (hb hby d1_11) (by decide) (by decide) ?_
    show Steps p.tables e below (T2.setTop (mkF m 15 #[.val (.ref a_ANNUALLY)] [(.int (1 : Int32))])) _
    exact retN X2 hx (t := .boolean) Bd.returns (by simp) (hb hby d1_15) hr
  · show own_Q _ h0 n0 _ T2.heap _
    exact ⟨rfl, N0, e2⟩
set_option maxRecDepth 65536 in
set_option maxHeartbeats 40000000 in
theorem own_law_0 (l : Launch) (Z : State) (a0 : Array Value) (hw : ∀ d ∈ tables_1, d.before a0 Z = true) (ws : List Jvm.Cond) (a_DAILY a_MONTHLY a_SEMIANNUALLY a_ANNUALLY a_BIWEEKLY a_WEEKLY a_BIMONTHLY a_QUARTERLY a_U a_M : Addr) (p1 : Int32) (h0 : Heap) (n0 : Nat) (hp : own_Pin Z h0 a_DAILY a_MONTHLY a_SEMIANNUALLY a_ANNUALLY a_BIWEEKLY a_WEEKLY a_BIMONTHLY a_QUARTERLY a_U a_M) (hi : (p1 &&& (7 : Int32)) = (0 : Int32)) :
    MetFree l x (head1 (Jvm.Cond.code x code maxLocals ret :: ws) room_1) (fun a U => a = #[(.int p1)] ∧ Z.Warmed39 U.vm ∧ U.heap = h0) (fun _ _ _ _ _ => True) (fun _ U o U' => ∃ v L, o = .returned v ∧ own_Q (.int (1 : Int32)) h0 n0 v U'.heap L ∧ FrameEnd U o U' L room_1.cells room_1.slots) := by
  have hp' := hp
  obtain ⟨S_DAILY, S_MONTHLY, S_SEMIANNUALLY, S_ANNUALLY, S_BIWEEKLY, S_WEEKLY, S_BIMONTHLY, S_QUARTERLY, E_DAILY, E_MONTHLY, E_SEMIANNUALLY, E_ANNUALLY, E_BIWEEKLY, E_WEEKLY, E_BIMONTHLY, E_QUARTERLY, F_DAILY, F_MONTHLY, F_SEMIANNUALLY, F_ANNUALLY, F_BIWEEKLY, F_WEEKLY, F_BIMONTHLY, F_QUARTERLY, S_M, n_U_M⟩ := hp'
  refine MetFree.of_bodySF (plainFor_of_name own_pn1) hisR ?_
  intro p e s m args below meth c s₁ Bd hml0 hP hK
  obtain ⟨rfl, hZ, hh⟩ := hP
  have hx := Bd.exec
  have hby := Bd.bytes
  have hml : c.maxLocals = 4 := hml0
  have hown : s.vm.findClass "com/example/ledgerwheel/ledgerwheel/FrequencyKeepsAnAnchorDayPinLaw" = some m.cls := findClass_of_methodNamed Bd.named
  have X0 : Stand p l e room_1 s m #[(.int p1)] below meth c s₁ [] 0 0 := Stand.of_body Bd
  have e0 : s₁.heap = h0 := by rw [← hh, Bd.state]; rfl
  have N0 := Fr.nil n0
  have pre0 : ∀ t, Steps p.tables e below (s₁.setTop (mkF m 0 #[.val (.int p1), .unset, .unset, .unset] [])) t → Steps p.tables e below (s₁.setTop (entryFrame m #[(.int p1)] maxLocals)) t := fun t k => castTop (by first | (simp [entryFrame, mkF, argsToLocals, Value.category, maxLocals]; done) | rfl) k
  obtain ⟨T1, X1, e1, st1⟩ := getS X0 hx hZ hown (host := "") (hw _ (List.mem_of_getElem? (i := 0) rfl)) Via.refl e0 S_DAILY (g := (mkF m 9 #[.val (.int p1), .val (.int (0 : Int32)), .unset, .unset] [])) rfl (hb hby at_9)
  obtain ⟨cq2, kq2, q2a, q2b, q2c⟩ := isOf hZ e1 E_DAILY
  obtain ⟨_, _, ⟨T2, L2, k2, n2⟩, -, X2, ⟨Lc2, hQ2, l2, y2, z2⟩, st2⟩ := X1.virtualBack hx (y := (⟨"com/example/ledgerwheel/ledgerwheel/Frequency", "keepsAnAnchorDay", "()Z"⟩ : MethodName)) (z := (⟨"com/example/ledgerwheel/ledgerwheel/Frequency", "keepsAnAnchorDay", "()Z"⟩ : MethodName)) hown (mvT hZ (hw _ (List.mem_of_getElem? (i := 3) rfl))) (mvT hZ (hw _ (List.mem_of_getElem? (i := 4) rfl))) (notFace_of_selects (args := #[]) (mvT hZ (hw _ (List.mem_of_getElem? (i := 6) rfl)))) (mvT hZ (hw _ (List.mem_of_getElem? (i := 6) rfl))) (mvT hZ (hw _ (List.mem_of_getElem? (i := 5) rfl))) (by decide) (backOf (W := 0) (own_b1_0 l Z a0 hw [] a_DAILY a_MONTHLY a_SEMIANNUALLY a_ANNUALLY a_BIWEEKLY a_WEEKLY a_BIMONTHLY a_QUARTERLY a_U a_M  h0 n0 hp) hZ (hw _ (List.mem_of_getElem? (i := 7) rfl)) (hw _ (List.mem_of_getElem? (i := 1) rfl)) (by decide) (by decide)) q2a q2c (g := (mkF m 110 #[.val (.int p1), .val (.int (0 : Int32)), .val (.ref a_DAILY), .val (.int (0 : Int32))] [(.ref a_DAILY)])) rfl (by rw [hml]; rfl) (Steps.refl _) (argsL := []) (rest := []) (lenOf own_pd0 rfl) rfl (by show 2 * 0 + _ ≤ _; exact Nat.le_of_eq rfl) (hb hby at_110) (fun _ _ => ⟨rfl, e1, (by decide : 0 + 0 ≤ _), (by decide : 0 + 0 ≤ _)⟩)
  dsimp only [Pt.U, Pt.locs, Pt.cells, Pt.slots] at X2 l2 y2 z2 st2 hQ2
  subst l2 y2 z2
  obtain ⟨rfl, N2q, e2⟩ := hQ2
  have N2 := Fr.app N0 N2q
  obtain ⟨fs, hr, hrun, hended, hW, hsame⟩ := X2.leave (v := some (.int (1 : Int32))) (fun h => by rw [Bd.returns] at h; cases h)
  refine ⟨_, _, pre0 _ ?_, hrun, hended, _, _, rfl, ?_, ⟨_, rfl⟩, hW, hsame.mono (by decide) (by decide)⟩
  · show Steps p.tables e below (s₁.setTop (mkF m 0 #[.val (.int p1), .unset, .unset, .unset] [])) _
    refine XS.iloadN X0.here hx rfl (hb hby at_0) rfl ?_
    show Steps p.tables e below (s₁.setTop (mkF m 1 #[.val (.int p1), .unset, .unset, .unset] [(.int p1)])) _
    refine XS.bipush X0.here hx rfl (hb hby at_1) ?_
    show Steps p.tables e below (s₁.setTop (mkF m 3 #[.val (.int p1), .unset, .unset, .unset] [(.int (7 : Int32)), (.int p1)])) _
    refine XS.iand X0.here hx rfl (hb hby at_3) rfl ?_
    show Steps p.tables e below (s₁.setTop (mkF m 4 #[.val (.int p1), .unset, .unset, .unset] [(.int (p1 &&& (7 : Int32)))])) _
    rewrite [hi]
    show Steps p.tables e below (s₁.setTop (mkF m 4 #[.val (.int p1), .unset, .unset, .unset] [(.int (0 : Int32))])) _
    refine XS.istoreN X0.here hx rfl (hb hby at_4) rfl (l' := #[.val (.int p1), .val (.int (0 : Int32)), .unset, .unset]) rfl ?_
    show Steps p.tables e below (s₁.setTop (mkF m 5 #[.val (.int p1), .val (.int (0 : Int32)), .unset, .unset] [])) _
    refine XS.iloadN X0.here hx rfl (hb hby at_5) rfl ?_
    show Steps p.tables e below (s₁.setTop (mkF m 6 #[.val (.int p1), .val (.int (0 : Int32)), .unset, .unset] [(.int (0 : Int32))])) _
    refine XS.ifNo X0.here hx rfl (hb hby at_6) rfl (by decide) ?_
    show Steps p.tables e below (s₁.setTop (mkF m 9 #[.val (.int p1), .val (.int (0 : Int32)), .unset, .unset] [])) _
    refine st1 _ ?_
    show Steps p.tables e below (T1.setTop (mkF m 12 #[.val (.int p1), .val (.int (0 : Int32)), .unset, .unset] [(.ref a_DAILY)])) _
    refine XS.astoreN X1.here hx rfl (hb hby at_12) rfl rfl (l' := #[.val (.int p1), .val (.int (0 : Int32)), .val (.ref a_DAILY), .unset]) rfl ?_
    show Steps p.tables e below (T1.setTop (mkF m 13 #[.val (.int p1), .val (.int (0 : Int32)), .val (.ref a_DAILY), .unset] [])) _
    refine XS.iconst X1.here hx rfl (hb hby at_13) ?_
    show Steps p.tables e below (T1.setTop (mkF m 14 #[.val (.int p1), .val (.int (0 : Int32)), .val (.ref a_DAILY), .unset] [(.int (0 : Int32))])) _
    refine XS.istoreN X1.here hx rfl (hb hby at_14) rfl (l' := #[.val (.int p1), .val (.int (0 : Int32)), .val (.ref a_DAILY), .val (.int (0 : Int32))]) rfl ?_
    show Steps p.tables e below (T1.setTop (mkF m 15 #[.val (.int p1), .val (.int (0 : Int32)), .val (.ref a_DAILY), .val (.int (0 : Int32))] [])) _
    refine XS.goto X1.here hx rfl (pc0 := 15) (pc' := 109) rfl (hb hby at_15) (by decide) (by decide) ?_
    show Steps p.tables e below (T1.setTop (mkF m 109 #[.val (.int p1), .val (.int (0 : Int32)), .val (.ref a_DAILY), .val (.int (0 : Int32))] [])) _
    refine XS.aloadN X1.here hx rfl (hb hby at_109) rfl rfl ?_
    show Steps p.tables e below (T1.setTop (mkF m 110 #[.val (.int p1), .val (.int (0 : Int32)), .val (.ref a_DAILY), .val (.int (0 : Int32))] [(.ref a_DAILY)])) _
    refine st2.trans ?_
    show Steps p.tables e below (T2.setTop (mkF m 113 #[.val (.int p1), .val (.int (0 : Int32)), .val (.ref a_DAILY), .val (.int (0 : Int32))] [(.int (0 : Int32))])) _
    refine XS.iloadN X2.here hx rfl (hb hby at_113) rfl ?_
    show Steps p.tables e below (T2.setTop (mkF m 114 #[.val (.int p1), .val (.int (0 : Int32)), .val (.ref a_DAILY), .val (.int (0 : Int32))] [(.int (0 : Int32)), (.int (0 : Int32))])) _
    refine XS.icmpNo X2.here hx rfl (hb hby at_114) rfl (by decide) ?_
    show Steps p.tables e below (T2.setTop (mkF m 117 #[.val (.int p1), .val (.int (0 : Int32)), .val (.ref a_DAILY), .val (.int (0 : Int32))] [])) _
    refine XS.iconst X2.here hx rfl (hb hby at_117) ?_
    show Steps p.tables e below (T2.setTop (mkF m 118 #[.val (.int p1), .val (.int (0 : Int32)), .val (.ref a_DAILY), .val (.int (0 : Int32))] [(.int (1 : Int32))])) _
    refine XS.goto X2.here hx rfl (pc0 := 118) (pc' := 122) rfl (hb hby at_118) (by decide) (by decide) ?_
    show Steps p.tables e below (T2.setTop (mkF m 122 #[.val (.int p1), .val (.int (0 : Int32)), .val (.ref a_DAILY), .val (.int (0 : Int32))] [(.int (1 : Int32))])) _
    exact retN X2 hx (t := .boolean) Bd.returns (by simp) (hb hby at_122) hr
  · show own_Q _ h0 n0 _ T2.heap _
    exact ⟨rfl, N2, e2⟩
set_option maxRecDepth 65536 in
set_option maxHeartbeats 40000000 in
theorem own_law_1 (l : Launch) (Z : State) (a0 : Array Value) (hw : ∀ d ∈ tables_1, d.before a0 Z = true) (ws : List Jvm.Cond) (a_DAILY a_MONTHLY a_SEMIANNUALLY a_ANNUALLY a_BIWEEKLY a_WEEKLY a_BIMONTHLY a_QUARTERLY a_U a_M : Addr) (p1 : Int32) (h0 : Heap) (n0 : Nat) (hp : own_Pin Z h0 a_DAILY a_MONTHLY a_SEMIANNUALLY a_ANNUALLY a_BIWEEKLY a_WEEKLY a_BIMONTHLY a_QUARTERLY a_U a_M) (hi : (p1 &&& (7 : Int32)) = (1 : Int32)) :
    MetFree l x (head1 (Jvm.Cond.code x code maxLocals ret :: ws) room_1) (fun a U => a = #[(.int p1)] ∧ Z.Warmed39 U.vm ∧ U.heap = h0) (fun _ _ _ _ _ => True) (fun _ U o U' => ∃ v L, o = .returned v ∧ own_Q (.int (1 : Int32)) h0 n0 v U'.heap L ∧ FrameEnd U o U' L room_1.cells room_1.slots) := by
  have hp' := hp
  obtain ⟨S_DAILY, S_MONTHLY, S_SEMIANNUALLY, S_ANNUALLY, S_BIWEEKLY, S_WEEKLY, S_BIMONTHLY, S_QUARTERLY, E_DAILY, E_MONTHLY, E_SEMIANNUALLY, E_ANNUALLY, E_BIWEEKLY, E_WEEKLY, E_BIMONTHLY, E_QUARTERLY, F_DAILY, F_MONTHLY, F_SEMIANNUALLY, F_ANNUALLY, F_BIWEEKLY, F_WEEKLY, F_BIMONTHLY, F_QUARTERLY, S_M, n_U_M⟩ := hp'
  refine MetFree.of_bodySF (plainFor_of_name own_pn1) hisR ?_
  intro p e s m args below meth c s₁ Bd hml0 hP hK
  obtain ⟨rfl, hZ, hh⟩ := hP
  have hx := Bd.exec
  have hby := Bd.bytes
  have hml : c.maxLocals = 4 := hml0
  have hown : s.vm.findClass "com/example/ledgerwheel/ledgerwheel/FrequencyKeepsAnAnchorDayPinLaw" = some m.cls := findClass_of_methodNamed Bd.named
  have X0 : Stand p l e room_1 s m #[(.int p1)] below meth c s₁ [] 0 0 := Stand.of_body Bd
  have e0 : s₁.heap = h0 := by rw [← hh, Bd.state]; rfl
  have N0 := Fr.nil n0
  have pre0 : ∀ t, Steps p.tables e below (s₁.setTop (mkF m 0 #[.val (.int p1), .unset, .unset, .unset] [])) t → Steps p.tables e below (s₁.setTop (entryFrame m #[(.int p1)] maxLocals)) t := fun t k => castTop (by first | (simp [entryFrame, mkF, argsToLocals, Value.category, maxLocals]; done) | rfl) k
  obtain ⟨T1, X1, e1, st1⟩ := getS X0 hx hZ hown (host := "") (hw _ (List.mem_of_getElem? (i := 20) rfl)) Via.refl e0 S_WEEKLY (g := (mkF m 23 #[.val (.int p1), .val (.int (1 : Int32)), .unset, .unset] [])) rfl (hb hby at_23)
  obtain ⟨cq2, kq2, q2a, q2b, q2c⟩ := isOf hZ e1 E_WEEKLY
  obtain ⟨_, _, ⟨T2, L2, k2, n2⟩, -, X2, ⟨Lc2, hQ2, l2, y2, z2⟩, st2⟩ := X1.virtualBack hx (y := (⟨"com/example/ledgerwheel/ledgerwheel/Frequency", "keepsAnAnchorDay", "()Z"⟩ : MethodName)) (z := (⟨"com/example/ledgerwheel/ledgerwheel/Frequency", "keepsAnAnchorDay", "()Z"⟩ : MethodName)) hown (mvT hZ (hw _ (List.mem_of_getElem? (i := 3) rfl))) (mvT hZ (hw _ (List.mem_of_getElem? (i := 4) rfl))) (notFace_of_selects (args := #[]) (mvT hZ (hw _ (List.mem_of_getElem? (i := 6) rfl)))) (mvT hZ (hw _ (List.mem_of_getElem? (i := 6) rfl))) (mvT hZ (hw _ (List.mem_of_getElem? (i := 5) rfl))) (by decide) (backOf (W := 0) (own_b1_1 l Z a0 hw [] a_DAILY a_MONTHLY a_SEMIANNUALLY a_ANNUALLY a_BIWEEKLY a_WEEKLY a_BIMONTHLY a_QUARTERLY a_U a_M  h0 n0 hp) hZ (hw _ (List.mem_of_getElem? (i := 7) rfl)) (hw _ (List.mem_of_getElem? (i := 1) rfl)) (by decide) (by decide)) q2a q2c (g := (mkF m 110 #[.val (.int p1), .val (.int (1 : Int32)), .val (.ref a_WEEKLY), .val (.int (0 : Int32))] [(.ref a_WEEKLY)])) rfl (by rw [hml]; rfl) (Steps.refl _) (argsL := []) (rest := []) (lenOf own_pd0 rfl) rfl (by show 2 * 0 + _ ≤ _; exact Nat.le_of_eq rfl) (hb hby at_110) (fun _ _ => ⟨rfl, e1, (by decide : 0 + 0 ≤ _), (by decide : 0 + 0 ≤ _)⟩)
  dsimp only [Pt.U, Pt.locs, Pt.cells, Pt.slots] at X2 l2 y2 z2 st2 hQ2
  subst l2 y2 z2
  obtain ⟨rfl, N2q, e2⟩ := hQ2
  have N2 := Fr.app N0 N2q
  obtain ⟨fs, hr, hrun, hended, hW, hsame⟩ := X2.leave (v := some (.int (1 : Int32))) (fun h => by rw [Bd.returns] at h; cases h)
  refine ⟨_, _, pre0 _ ?_, hrun, hended, _, _, rfl, ?_, ⟨_, rfl⟩, hW, hsame.mono (by decide) (by decide)⟩
  · show Steps p.tables e below (s₁.setTop (mkF m 0 #[.val (.int p1), .unset, .unset, .unset] [])) _
    refine XS.iloadN X0.here hx rfl (hb hby at_0) rfl ?_
    show Steps p.tables e below (s₁.setTop (mkF m 1 #[.val (.int p1), .unset, .unset, .unset] [(.int p1)])) _
    refine XS.bipush X0.here hx rfl (hb hby at_1) ?_
    show Steps p.tables e below (s₁.setTop (mkF m 3 #[.val (.int p1), .unset, .unset, .unset] [(.int (7 : Int32)), (.int p1)])) _
    refine XS.iand X0.here hx rfl (hb hby at_3) rfl ?_
    show Steps p.tables e below (s₁.setTop (mkF m 4 #[.val (.int p1), .unset, .unset, .unset] [(.int (p1 &&& (7 : Int32)))])) _
    rewrite [hi]
    show Steps p.tables e below (s₁.setTop (mkF m 4 #[.val (.int p1), .unset, .unset, .unset] [(.int (1 : Int32))])) _
    refine XS.istoreN X0.here hx rfl (hb hby at_4) rfl (l' := #[.val (.int p1), .val (.int (1 : Int32)), .unset, .unset]) rfl ?_
    show Steps p.tables e below (s₁.setTop (mkF m 5 #[.val (.int p1), .val (.int (1 : Int32)), .unset, .unset] [])) _
    refine XS.iloadN X0.here hx rfl (hb hby at_5) rfl ?_
    show Steps p.tables e below (s₁.setTop (mkF m 6 #[.val (.int p1), .val (.int (1 : Int32)), .unset, .unset] [(.int (1 : Int32))])) _
    refine XS.ifYes X0.here hx rfl (pc0 := 6) (pc' := 18) rfl (hb hby at_6) rfl (by decide) (by decide) (by decide) ?_
    show Steps p.tables e below (s₁.setTop (mkF m 18 #[.val (.int p1), .val (.int (1 : Int32)), .unset, .unset] [])) _
    refine XS.iloadN X0.here hx rfl (hb hby at_18) rfl ?_
    show Steps p.tables e below (s₁.setTop (mkF m 19 #[.val (.int p1), .val (.int (1 : Int32)), .unset, .unset] [(.int (1 : Int32))])) _
    refine XS.iconst X0.here hx rfl (hb hby at_19) ?_
    show Steps p.tables e below (s₁.setTop (mkF m 20 #[.val (.int p1), .val (.int (1 : Int32)), .unset, .unset] [(.int (1 : Int32)), (.int (1 : Int32))])) _
    refine XS.icmpNo X0.here hx rfl (hb hby at_20) rfl (by decide) ?_
    show Steps p.tables e below (s₁.setTop (mkF m 23 #[.val (.int p1), .val (.int (1 : Int32)), .unset, .unset] [])) _
    refine st1 _ ?_
    show Steps p.tables e below (T1.setTop (mkF m 26 #[.val (.int p1), .val (.int (1 : Int32)), .unset, .unset] [(.ref a_WEEKLY)])) _
    refine XS.astoreN X1.here hx rfl (hb hby at_26) rfl rfl (l' := #[.val (.int p1), .val (.int (1 : Int32)), .val (.ref a_WEEKLY), .unset]) rfl ?_
    show Steps p.tables e below (T1.setTop (mkF m 27 #[.val (.int p1), .val (.int (1 : Int32)), .val (.ref a_WEEKLY), .unset] [])) _
    refine XS.iconst X1.here hx rfl (hb hby at_27) ?_
    show Steps p.tables e below (T1.setTop (mkF m 28 #[.val (.int p1), .val (.int (1 : Int32)), .val (.ref a_WEEKLY), .unset] [(.int (0 : Int32))])) _
    refine XS.istoreN X1.here hx rfl (hb hby at_28) rfl (l' := #[.val (.int p1), .val (.int (1 : Int32)), .val (.ref a_WEEKLY), .val (.int (0 : Int32))]) rfl ?_
    show Steps p.tables e below (T1.setTop (mkF m 29 #[.val (.int p1), .val (.int (1 : Int32)), .val (.ref a_WEEKLY), .val (.int (0 : Int32))] [])) _
    refine XS.goto X1.here hx rfl (pc0 := 29) (pc' := 109) rfl (hb hby at_29) (by decide) (by decide) ?_
    show Steps p.tables e below (T1.setTop (mkF m 109 #[.val (.int p1), .val (.int (1 : Int32)), .val (.ref a_WEEKLY), .val (.int (0 : Int32))] [])) _
    refine XS.aloadN X1.here hx rfl (hb hby at_109) rfl rfl ?_
    show Steps p.tables e below (T1.setTop (mkF m 110 #[.val (.int p1), .val (.int (1 : Int32)), .val (.ref a_WEEKLY), .val (.int (0 : Int32))] [(.ref a_WEEKLY)])) _
    refine st2.trans ?_
    show Steps p.tables e below (T2.setTop (mkF m 113 #[.val (.int p1), .val (.int (1 : Int32)), .val (.ref a_WEEKLY), .val (.int (0 : Int32))] [(.int (0 : Int32))])) _
    refine XS.iloadN X2.here hx rfl (hb hby at_113) rfl ?_
    show Steps p.tables e below (T2.setTop (mkF m 114 #[.val (.int p1), .val (.int (1 : Int32)), .val (.ref a_WEEKLY), .val (.int (0 : Int32))] [(.int (0 : Int32)), (.int (0 : Int32))])) _
    refine XS.icmpNo X2.here hx rfl (hb hby at_114) rfl (by decide) ?_
    show Steps p.tables e below (T2.setTop (mkF m 117 #[.val (.int p1), .val (.int (1 : Int32)), .val (.ref a_WEEKLY), .val (.int (0 : Int32))] [])) _
    refine XS.iconst X2.here hx rfl (hb hby at_117) ?_
    show Steps p.tables e below (T2.setTop (mkF m 118 #[.val (.int p1), .val (.int (1 : Int32)), .val (.ref a_WEEKLY), .val (.int (0 : Int32))] [(.int (1 : Int32))])) _
    refine XS.goto X2.here hx rfl (pc0 := 118) (pc' := 122) rfl (hb hby at_118) (by decide) (by decide) ?_
    show Steps p.tables e below (T2.setTop (mkF m 122 #[.val (.int p1), .val (.int (1 : Int32)), .val (.ref a_WEEKLY), .val (.int (0 : Int32))] [(.int (1 : Int32))])) _
    exact retN X2 hx (t := .boolean) Bd.returns (by simp) (hb hby at_122) hr
  · show own_Q _ h0 n0 _ T2.heap _
    exact ⟨rfl, N2, e2⟩
set_option maxRecDepth 65536 in
set_option maxHeartbeats 40000000 in
theorem own_law_2 (l : Launch) (Z : State) (a0 : Array Value) (hw : ∀ d ∈ tables_1, d.before a0 Z = true) (ws : List Jvm.Cond) (a_DAILY a_MONTHLY a_SEMIANNUALLY a_ANNUALLY a_BIWEEKLY a_WEEKLY a_BIMONTHLY a_QUARTERLY a_U a_M : Addr) (p1 : Int32) (h0 : Heap) (n0 : Nat) (hp : own_Pin Z h0 a_DAILY a_MONTHLY a_SEMIANNUALLY a_ANNUALLY a_BIWEEKLY a_WEEKLY a_BIMONTHLY a_QUARTERLY a_U a_M) (hi : (p1 &&& (7 : Int32)) = (2 : Int32)) :
    MetFree l x (head1 (Jvm.Cond.code x code maxLocals ret :: ws) room_1) (fun a U => a = #[(.int p1)] ∧ Z.Warmed39 U.vm ∧ U.heap = h0) (fun _ _ _ _ _ => True) (fun _ U o U' => ∃ v L, o = .returned v ∧ own_Q (.int (1 : Int32)) h0 n0 v U'.heap L ∧ FrameEnd U o U' L room_1.cells room_1.slots) := by
  have hp' := hp
  obtain ⟨S_DAILY, S_MONTHLY, S_SEMIANNUALLY, S_ANNUALLY, S_BIWEEKLY, S_WEEKLY, S_BIMONTHLY, S_QUARTERLY, E_DAILY, E_MONTHLY, E_SEMIANNUALLY, E_ANNUALLY, E_BIWEEKLY, E_WEEKLY, E_BIMONTHLY, E_QUARTERLY, F_DAILY, F_MONTHLY, F_SEMIANNUALLY, F_ANNUALLY, F_BIWEEKLY, F_WEEKLY, F_BIMONTHLY, F_QUARTERLY, S_M, n_U_M⟩ := hp'
  refine MetFree.of_bodySF (plainFor_of_name own_pn1) hisR ?_
  intro p e s m args below meth c s₁ Bd hml0 hP hK
  obtain ⟨rfl, hZ, hh⟩ := hP
  have hx := Bd.exec
  have hby := Bd.bytes
  have hml : c.maxLocals = 4 := hml0
  have hown : s.vm.findClass "com/example/ledgerwheel/ledgerwheel/FrequencyKeepsAnAnchorDayPinLaw" = some m.cls := findClass_of_methodNamed Bd.named
  have X0 : Stand p l e room_1 s m #[(.int p1)] below meth c s₁ [] 0 0 := Stand.of_body Bd
  have e0 : s₁.heap = h0 := by rw [← hh, Bd.state]; rfl
  have N0 := Fr.nil n0
  have pre0 : ∀ t, Steps p.tables e below (s₁.setTop (mkF m 0 #[.val (.int p1), .unset, .unset, .unset] [])) t → Steps p.tables e below (s₁.setTop (entryFrame m #[(.int p1)] maxLocals)) t := fun t k => castTop (by first | (simp [entryFrame, mkF, argsToLocals, Value.category, maxLocals]; done) | rfl) k
  obtain ⟨T1, X1, e1, st1⟩ := getS X0 hx hZ hown (host := "") (hw _ (List.mem_of_getElem? (i := 18) rfl)) Via.refl e0 S_BIWEEKLY (g := (mkF m 37 #[.val (.int p1), .val (.int (2 : Int32)), .unset, .unset] [])) rfl (hb hby at_37)
  obtain ⟨cq2, kq2, q2a, q2b, q2c⟩ := isOf hZ e1 E_BIWEEKLY
  obtain ⟨_, _, ⟨T2, L2, k2, n2⟩, -, X2, ⟨Lc2, hQ2, l2, y2, z2⟩, st2⟩ := X1.virtualBack hx (y := (⟨"com/example/ledgerwheel/ledgerwheel/Frequency", "keepsAnAnchorDay", "()Z"⟩ : MethodName)) (z := (⟨"com/example/ledgerwheel/ledgerwheel/Frequency", "keepsAnAnchorDay", "()Z"⟩ : MethodName)) hown (mvT hZ (hw _ (List.mem_of_getElem? (i := 3) rfl))) (mvT hZ (hw _ (List.mem_of_getElem? (i := 4) rfl))) (notFace_of_selects (args := #[]) (mvT hZ (hw _ (List.mem_of_getElem? (i := 6) rfl)))) (mvT hZ (hw _ (List.mem_of_getElem? (i := 6) rfl))) (mvT hZ (hw _ (List.mem_of_getElem? (i := 5) rfl))) (by decide) (backOf (W := 0) (own_b1_2 l Z a0 hw [] a_DAILY a_MONTHLY a_SEMIANNUALLY a_ANNUALLY a_BIWEEKLY a_WEEKLY a_BIMONTHLY a_QUARTERLY a_U a_M  h0 n0 hp) hZ (hw _ (List.mem_of_getElem? (i := 7) rfl)) (hw _ (List.mem_of_getElem? (i := 1) rfl)) (by decide) (by decide)) q2a q2c (g := (mkF m 110 #[.val (.int p1), .val (.int (2 : Int32)), .val (.ref a_BIWEEKLY), .val (.int (0 : Int32))] [(.ref a_BIWEEKLY)])) rfl (by rw [hml]; rfl) (Steps.refl _) (argsL := []) (rest := []) (lenOf own_pd0 rfl) rfl (by show 2 * 0 + _ ≤ _; exact Nat.le_of_eq rfl) (hb hby at_110) (fun _ _ => ⟨rfl, e1, (by decide : 0 + 0 ≤ _), (by decide : 0 + 0 ≤ _)⟩)
  dsimp only [Pt.U, Pt.locs, Pt.cells, Pt.slots] at X2 l2 y2 z2 st2 hQ2
  subst l2 y2 z2
  obtain ⟨rfl, N2q, e2⟩ := hQ2
  have N2 := Fr.app N0 N2q
  obtain ⟨fs, hr, hrun, hended, hW, hsame⟩ := X2.leave (v := some (.int (1 : Int32))) (fun h => by rw [Bd.returns] at h; cases h)
  refine ⟨_, _, pre0 _ ?_, hrun, hended, _, _, rfl, ?_, ⟨_, rfl⟩, hW, hsame.mono (by decide) (by decide)⟩
  · show Steps p.tables e below (s₁.setTop (mkF m 0 #[.val (.int p1), .unset, .unset, .unset] [])) _
    refine XS.iloadN X0.here hx rfl (hb hby at_0) rfl ?_
    show Steps p.tables e below (s₁.setTop (mkF m 1 #[.val (.int p1), .unset, .unset, .unset] [(.int p1)])) _
    refine XS.bipush X0.here hx rfl (hb hby at_1) ?_
    show Steps p.tables e below (s₁.setTop (mkF m 3 #[.val (.int p1), .unset, .unset, .unset] [(.int (7 : Int32)), (.int p1)])) _
    refine XS.iand X0.here hx rfl (hb hby at_3) rfl ?_
    show Steps p.tables e below (s₁.setTop (mkF m 4 #[.val (.int p1), .unset, .unset, .unset] [(.int (p1 &&& (7 : Int32)))])) _
    rewrite [hi]
    show Steps p.tables e below (s₁.setTop (mkF m 4 #[.val (.int p1), .unset, .unset, .unset] [(.int (2 : Int32))])) _
    refine XS.istoreN X0.here hx rfl (hb hby at_4) rfl (l' := #[.val (.int p1), .val (.int (2 : Int32)), .unset, .unset]) rfl ?_
    show Steps p.tables e below (s₁.setTop (mkF m 5 #[.val (.int p1), .val (.int (2 : Int32)), .unset, .unset] [])) _
    refine XS.iloadN X0.here hx rfl (hb hby at_5) rfl ?_
    show Steps p.tables e below (s₁.setTop (mkF m 6 #[.val (.int p1), .val (.int (2 : Int32)), .unset, .unset] [(.int (2 : Int32))])) _
    refine XS.ifYes X0.here hx rfl (pc0 := 6) (pc' := 18) rfl (hb hby at_6) rfl (by decide) (by decide) (by decide) ?_
    show Steps p.tables e below (s₁.setTop (mkF m 18 #[.val (.int p1), .val (.int (2 : Int32)), .unset, .unset] [])) _
    refine XS.iloadN X0.here hx rfl (hb hby at_18) rfl ?_
    show Steps p.tables e below (s₁.setTop (mkF m 19 #[.val (.int p1), .val (.int (2 : Int32)), .unset, .unset] [(.int (2 : Int32))])) _
    refine XS.iconst X0.here hx rfl (hb hby at_19) ?_
    show Steps p.tables e below (s₁.setTop (mkF m 20 #[.val (.int p1), .val (.int (2 : Int32)), .unset, .unset] [(.int (1 : Int32)), (.int (2 : Int32))])) _
    refine XS.icmpYes X0.here hx rfl (pc0 := 20) (pc' := 32) rfl (hb hby at_20) rfl (by decide) (by decide) (by decide) ?_
    show Steps p.tables e below (s₁.setTop (mkF m 32 #[.val (.int p1), .val (.int (2 : Int32)), .unset, .unset] [])) _
    refine XS.iloadN X0.here hx rfl (hb hby at_32) rfl ?_
    show Steps p.tables e below (s₁.setTop (mkF m 33 #[.val (.int p1), .val (.int (2 : Int32)), .unset, .unset] [(.int (2 : Int32))])) _
    refine XS.iconst X0.here hx rfl (hb hby at_33) ?_
    show Steps p.tables e below (s₁.setTop (mkF m 34 #[.val (.int p1), .val (.int (2 : Int32)), .unset, .unset] [(.int (2 : Int32)), (.int (2 : Int32))])) _
    refine XS.icmpNo X0.here hx rfl (hb hby at_34) rfl (by decide) ?_
    show Steps p.tables e below (s₁.setTop (mkF m 37 #[.val (.int p1), .val (.int (2 : Int32)), .unset, .unset] [])) _
    refine st1 _ ?_
    show Steps p.tables e below (T1.setTop (mkF m 40 #[.val (.int p1), .val (.int (2 : Int32)), .unset, .unset] [(.ref a_BIWEEKLY)])) _
    refine XS.astoreN X1.here hx rfl (hb hby at_40) rfl rfl (l' := #[.val (.int p1), .val (.int (2 : Int32)), .val (.ref a_BIWEEKLY), .unset]) rfl ?_
    show Steps p.tables e below (T1.setTop (mkF m 41 #[.val (.int p1), .val (.int (2 : Int32)), .val (.ref a_BIWEEKLY), .unset] [])) _
    refine XS.iconst X1.here hx rfl (hb hby at_41) ?_
    show Steps p.tables e below (T1.setTop (mkF m 42 #[.val (.int p1), .val (.int (2 : Int32)), .val (.ref a_BIWEEKLY), .unset] [(.int (0 : Int32))])) _
    refine XS.istoreN X1.here hx rfl (hb hby at_42) rfl (l' := #[.val (.int p1), .val (.int (2 : Int32)), .val (.ref a_BIWEEKLY), .val (.int (0 : Int32))]) rfl ?_
    show Steps p.tables e below (T1.setTop (mkF m 43 #[.val (.int p1), .val (.int (2 : Int32)), .val (.ref a_BIWEEKLY), .val (.int (0 : Int32))] [])) _
    refine XS.goto X1.here hx rfl (pc0 := 43) (pc' := 109) rfl (hb hby at_43) (by decide) (by decide) ?_
    show Steps p.tables e below (T1.setTop (mkF m 109 #[.val (.int p1), .val (.int (2 : Int32)), .val (.ref a_BIWEEKLY), .val (.int (0 : Int32))] [])) _
    refine XS.aloadN X1.here hx rfl (hb hby at_109) rfl rfl ?_
    show Steps p.tables e below (T1.setTop (mkF m 110 #[.val (.int p1), .val (.int (2 : Int32)), .val (.ref a_BIWEEKLY), .val (.int (0 : Int32))] [(.ref a_BIWEEKLY)])) _
    refine st2.trans ?_
    show Steps p.tables e below (T2.setTop (mkF m 113 #[.val (.int p1), .val (.int (2 : Int32)), .val (.ref a_BIWEEKLY), .val (.int (0 : Int32))] [(.int (0 : Int32))])) _
    refine XS.iloadN X2.here hx rfl (hb hby at_113) rfl ?_
    show Steps p.tables e below (T2.setTop (mkF m 114 #[.val (.int p1), .val (.int (2 : Int32)), .val (.ref a_BIWEEKLY), .val (.int (0 : Int32))] [(.int (0 : Int32)), (.int (0 : Int32))])) _
    refine XS.icmpNo X2.here hx rfl (hb hby at_114) rfl (by decide) ?_
    show Steps p.tables e below (T2.setTop (mkF m 117 #[.val (.int p1), .val (.int (2 : Int32)), .val (.ref a_BIWEEKLY), .val (.int (0 : Int32))] [])) _
    refine XS.iconst X2.here hx rfl (hb hby at_117) ?_
    show Steps p.tables e below (T2.setTop (mkF m 118 #[.val (.int p1), .val (.int (2 : Int32)), .val (.ref a_BIWEEKLY), .val (.int (0 : Int32))] [(.int (1 : Int32))])) _
    refine XS.goto X2.here hx rfl (pc0 := 118) (pc' := 122) rfl (hb hby at_118) (by decide) (by decide) ?_
    show Steps p.tables e below (T2.setTop (mkF m 122 #[.val (.int p1), .val (.int (2 : Int32)), .val (.ref a_BIWEEKLY), .val (.int (0 : Int32))] [(.int (1 : Int32))])) _
    exact retN X2 hx (t := .boolean) Bd.returns (by simp) (hb hby at_122) hr
  · show own_Q _ h0 n0 _ T2.heap _
    exact ⟨rfl, N2, e2⟩
set_option maxRecDepth 65536 in
set_option maxHeartbeats 40000000 in
theorem own_law_3 (l : Launch) (Z : State) (a0 : Array Value) (hw : ∀ d ∈ tables_1, d.before a0 Z = true) (ws : List Jvm.Cond) (a_DAILY a_MONTHLY a_SEMIANNUALLY a_ANNUALLY a_BIWEEKLY a_WEEKLY a_BIMONTHLY a_QUARTERLY a_U a_M : Addr) (p1 : Int32) (h0 : Heap) (n0 : Nat) (hp : own_Pin Z h0 a_DAILY a_MONTHLY a_SEMIANNUALLY a_ANNUALLY a_BIWEEKLY a_WEEKLY a_BIMONTHLY a_QUARTERLY a_U a_M) (hi : (p1 &&& (7 : Int32)) = (3 : Int32)) :
    MetFree l x (head1 (Jvm.Cond.code x code maxLocals ret :: ws) room_1) (fun a U => a = #[(.int p1)] ∧ Z.Warmed39 U.vm ∧ U.heap = h0) (fun _ _ _ _ _ => True) (fun _ U o U' => ∃ v L, o = .returned v ∧ own_Q (.int (1 : Int32)) h0 n0 v U'.heap L ∧ FrameEnd U o U' L room_1.cells room_1.slots) := by
  have hp' := hp
  obtain ⟨S_DAILY, S_MONTHLY, S_SEMIANNUALLY, S_ANNUALLY, S_BIWEEKLY, S_WEEKLY, S_BIMONTHLY, S_QUARTERLY, E_DAILY, E_MONTHLY, E_SEMIANNUALLY, E_ANNUALLY, E_BIWEEKLY, E_WEEKLY, E_BIMONTHLY, E_QUARTERLY, F_DAILY, F_MONTHLY, F_SEMIANNUALLY, F_ANNUALLY, F_BIWEEKLY, F_WEEKLY, F_BIMONTHLY, F_QUARTERLY, S_M, n_U_M⟩ := hp'
  refine MetFree.of_bodySF (plainFor_of_name own_pn1) hisR ?_
  intro p e s m args below meth c s₁ Bd hml0 hP hK
  obtain ⟨rfl, hZ, hh⟩ := hP
  have hx := Bd.exec
  have hby := Bd.bytes
  have hml : c.maxLocals = 4 := hml0
  have hown : s.vm.findClass "com/example/ledgerwheel/ledgerwheel/FrequencyKeepsAnAnchorDayPinLaw" = some m.cls := findClass_of_methodNamed Bd.named
  have X0 : Stand p l e room_1 s m #[(.int p1)] below meth c s₁ [] 0 0 := Stand.of_body Bd
  have e0 : s₁.heap = h0 := by rw [← hh, Bd.state]; rfl
  have N0 := Fr.nil n0
  have pre0 : ∀ t, Steps p.tables e below (s₁.setTop (mkF m 0 #[.val (.int p1), .unset, .unset, .unset] [])) t → Steps p.tables e below (s₁.setTop (entryFrame m #[(.int p1)] maxLocals)) t := fun t k => castTop (by first | (simp [entryFrame, mkF, argsToLocals, Value.category, maxLocals]; done) | rfl) k
  obtain ⟨T1, X1, e1, st1⟩ := getS X0 hx hZ hown (host := "") (hw _ (List.mem_of_getElem? (i := 12) rfl)) Via.refl e0 S_MONTHLY (g := (mkF m 51 #[.val (.int p1), .val (.int (3 : Int32)), .unset, .unset] [])) rfl (hb hby at_51)
  obtain ⟨cq2, kq2, q2a, q2b, q2c⟩ := isOf hZ e1 E_MONTHLY
  obtain ⟨_, _, ⟨T2, L2, k2, n2⟩, -, X2, ⟨Lc2, hQ2, l2, y2, z2⟩, st2⟩ := X1.virtualBack hx (y := (⟨"com/example/ledgerwheel/ledgerwheel/Frequency", "keepsAnAnchorDay", "()Z"⟩ : MethodName)) (z := (⟨"com/example/ledgerwheel/ledgerwheel/Frequency", "keepsAnAnchorDay", "()Z"⟩ : MethodName)) hown (mvT hZ (hw _ (List.mem_of_getElem? (i := 3) rfl))) (mvT hZ (hw _ (List.mem_of_getElem? (i := 4) rfl))) (notFace_of_selects (args := #[]) (mvT hZ (hw _ (List.mem_of_getElem? (i := 6) rfl)))) (mvT hZ (hw _ (List.mem_of_getElem? (i := 6) rfl))) (mvT hZ (hw _ (List.mem_of_getElem? (i := 5) rfl))) (by decide) (backOf (W := 0) (own_b1_3 l Z a0 hw [] a_DAILY a_MONTHLY a_SEMIANNUALLY a_ANNUALLY a_BIWEEKLY a_WEEKLY a_BIMONTHLY a_QUARTERLY a_U a_M  h0 n0 hp) hZ (hw _ (List.mem_of_getElem? (i := 7) rfl)) (hw _ (List.mem_of_getElem? (i := 1) rfl)) (by decide) (by decide)) q2a q2c (g := (mkF m 110 #[.val (.int p1), .val (.int (3 : Int32)), .val (.ref a_MONTHLY), .val (.int (1 : Int32))] [(.ref a_MONTHLY)])) rfl (by rw [hml]; rfl) (Steps.refl _) (argsL := []) (rest := []) (lenOf own_pd0 rfl) rfl (by show 2 * 0 + _ ≤ _; exact Nat.le_of_eq rfl) (hb hby at_110) (fun _ _ => ⟨rfl, e1, (by decide : 0 + 0 ≤ _), (by decide : 0 + 0 ≤ _)⟩)
  dsimp only [Pt.U, Pt.locs, Pt.cells, Pt.slots] at X2 l2 y2 z2 st2 hQ2
  subst l2 y2 z2
  obtain ⟨rfl, N2q, e2⟩ := hQ2
  have N2 := Fr.app N0 N2q
  obtain ⟨fs, hr, hrun, hended, hW, hsame⟩ := X2.leave (v := some (.int (1 : Int32))) (fun h => by rw [Bd.returns] at h; cases h)
  refine ⟨_, _, pre0 _ ?_, hrun, hended, _, _, rfl, ?_, ⟨_, rfl⟩, hW, hsame.mono (by decide) (by decide)⟩
  · show Steps p.tables e below (s₁.setTop (mkF m 0 #[.val (.int p1), .unset, .unset, .unset] [])) _
    refine XS.iloadN X0.here hx rfl (hb hby at_0) rfl ?_
    show Steps p.tables e below (s₁.setTop (mkF m 1 #[.val (.int p1), .unset, .unset, .unset] [(.int p1)])) _
    refine XS.bipush X0.here hx rfl (hb hby at_1) ?_
    show Steps p.tables e below (s₁.setTop (mkF m 3 #[.val (.int p1), .unset, .unset, .unset] [(.int (7 : Int32)), (.int p1)])) _
    refine XS.iand X0.here hx rfl (hb hby at_3) rfl ?_
    show Steps p.tables e below (s₁.setTop (mkF m 4 #[.val (.int p1), .unset, .unset, .unset] [(.int (p1 &&& (7 : Int32)))])) _
    rewrite [hi]
    show Steps p.tables e below (s₁.setTop (mkF m 4 #[.val (.int p1), .unset, .unset, .unset] [(.int (3 : Int32))])) _
    refine XS.istoreN X0.here hx rfl (hb hby at_4) rfl (l' := #[.val (.int p1), .val (.int (3 : Int32)), .unset, .unset]) rfl ?_
    show Steps p.tables e below (s₁.setTop (mkF m 5 #[.val (.int p1), .val (.int (3 : Int32)), .unset, .unset] [])) _
    refine XS.iloadN X0.here hx rfl (hb hby at_5) rfl ?_
    show Steps p.tables e below (s₁.setTop (mkF m 6 #[.val (.int p1), .val (.int (3 : Int32)), .unset, .unset] [(.int (3 : Int32))])) _
    refine XS.ifYes X0.here hx rfl (pc0 := 6) (pc' := 18) rfl (hb hby at_6) rfl (by decide) (by decide) (by decide) ?_
    show Steps p.tables e below (s₁.setTop (mkF m 18 #[.val (.int p1), .val (.int (3 : Int32)), .unset, .unset] [])) _
    refine XS.iloadN X0.here hx rfl (hb hby at_18) rfl ?_
    show Steps p.tables e below (s₁.setTop (mkF m 19 #[.val (.int p1), .val (.int (3 : Int32)), .unset, .unset] [(.int (3 : Int32))])) _
    refine XS.iconst X0.here hx rfl (hb hby at_19) ?_
    show Steps p.tables e below (s₁.setTop (mkF m 20 #[.val (.int p1), .val (.int (3 : Int32)), .unset, .unset] [(.int (1 : Int32)), (.int (3 : Int32))])) _
    refine XS.icmpYes X0.here hx rfl (pc0 := 20) (pc' := 32) rfl (hb hby at_20) rfl (by decide) (by decide) (by decide) ?_
    show Steps p.tables e below (s₁.setTop (mkF m 32 #[.val (.int p1), .val (.int (3 : Int32)), .unset, .unset] [])) _
    refine XS.iloadN X0.here hx rfl (hb hby at_32) rfl ?_
    show Steps p.tables e below (s₁.setTop (mkF m 33 #[.val (.int p1), .val (.int (3 : Int32)), .unset, .unset] [(.int (3 : Int32))])) _
    refine XS.iconst X0.here hx rfl (hb hby at_33) ?_
    show Steps p.tables e below (s₁.setTop (mkF m 34 #[.val (.int p1), .val (.int (3 : Int32)), .unset, .unset] [(.int (2 : Int32)), (.int (3 : Int32))])) _
    refine XS.icmpYes X0.here hx rfl (pc0 := 34) (pc' := 46) rfl (hb hby at_34) rfl (by decide) (by decide) (by decide) ?_
    show Steps p.tables e below (s₁.setTop (mkF m 46 #[.val (.int p1), .val (.int (3 : Int32)), .unset, .unset] [])) _
    refine XS.iloadN X0.here hx rfl (hb hby at_46) rfl ?_
    show Steps p.tables e below (s₁.setTop (mkF m 47 #[.val (.int p1), .val (.int (3 : Int32)), .unset, .unset] [(.int (3 : Int32))])) _
    refine XS.iconst X0.here hx rfl (hb hby at_47) ?_
    show Steps p.tables e below (s₁.setTop (mkF m 48 #[.val (.int p1), .val (.int (3 : Int32)), .unset, .unset] [(.int (3 : Int32)), (.int (3 : Int32))])) _
    refine XS.icmpNo X0.here hx rfl (hb hby at_48) rfl (by decide) ?_
    show Steps p.tables e below (s₁.setTop (mkF m 51 #[.val (.int p1), .val (.int (3 : Int32)), .unset, .unset] [])) _
    refine st1 _ ?_
    show Steps p.tables e below (T1.setTop (mkF m 54 #[.val (.int p1), .val (.int (3 : Int32)), .unset, .unset] [(.ref a_MONTHLY)])) _
    refine XS.astoreN X1.here hx rfl (hb hby at_54) rfl rfl (l' := #[.val (.int p1), .val (.int (3 : Int32)), .val (.ref a_MONTHLY), .unset]) rfl ?_
    show Steps p.tables e below (T1.setTop (mkF m 55 #[.val (.int p1), .val (.int (3 : Int32)), .val (.ref a_MONTHLY), .unset] [])) _
    refine XS.iconst X1.here hx rfl (hb hby at_55) ?_
    show Steps p.tables e below (T1.setTop (mkF m 56 #[.val (.int p1), .val (.int (3 : Int32)), .val (.ref a_MONTHLY), .unset] [(.int (1 : Int32))])) _
    refine XS.istoreN X1.here hx rfl (hb hby at_56) rfl (l' := #[.val (.int p1), .val (.int (3 : Int32)), .val (.ref a_MONTHLY), .val (.int (1 : Int32))]) rfl ?_
    show Steps p.tables e below (T1.setTop (mkF m 57 #[.val (.int p1), .val (.int (3 : Int32)), .val (.ref a_MONTHLY), .val (.int (1 : Int32))] [])) _
    refine XS.goto X1.here hx rfl (pc0 := 57) (pc' := 109) rfl (hb hby at_57) (by decide) (by decide) ?_
    show Steps p.tables e below (T1.setTop (mkF m 109 #[.val (.int p1), .val (.int (3 : Int32)), .val (.ref a_MONTHLY), .val (.int (1 : Int32))] [])) _
    refine XS.aloadN X1.here hx rfl (hb hby at_109) rfl rfl ?_
    show Steps p.tables e below (T1.setTop (mkF m 110 #[.val (.int p1), .val (.int (3 : Int32)), .val (.ref a_MONTHLY), .val (.int (1 : Int32))] [(.ref a_MONTHLY)])) _
    refine st2.trans ?_
    show Steps p.tables e below (T2.setTop (mkF m 113 #[.val (.int p1), .val (.int (3 : Int32)), .val (.ref a_MONTHLY), .val (.int (1 : Int32))] [(.int (1 : Int32))])) _
    refine XS.iloadN X2.here hx rfl (hb hby at_113) rfl ?_
    show Steps p.tables e below (T2.setTop (mkF m 114 #[.val (.int p1), .val (.int (3 : Int32)), .val (.ref a_MONTHLY), .val (.int (1 : Int32))] [(.int (1 : Int32)), (.int (1 : Int32))])) _
    refine XS.icmpNo X2.here hx rfl (hb hby at_114) rfl (by decide) ?_
    show Steps p.tables e below (T2.setTop (mkF m 117 #[.val (.int p1), .val (.int (3 : Int32)), .val (.ref a_MONTHLY), .val (.int (1 : Int32))] [])) _
    refine XS.iconst X2.here hx rfl (hb hby at_117) ?_
    show Steps p.tables e below (T2.setTop (mkF m 118 #[.val (.int p1), .val (.int (3 : Int32)), .val (.ref a_MONTHLY), .val (.int (1 : Int32))] [(.int (1 : Int32))])) _
    refine XS.goto X2.here hx rfl (pc0 := 118) (pc' := 122) rfl (hb hby at_118) (by decide) (by decide) ?_
    show Steps p.tables e below (T2.setTop (mkF m 122 #[.val (.int p1), .val (.int (3 : Int32)), .val (.ref a_MONTHLY), .val (.int (1 : Int32))] [(.int (1 : Int32))])) _
    exact retN X2 hx (t := .boolean) Bd.returns (by simp) (hb hby at_122) hr
  · show own_Q _ h0 n0 _ T2.heap _
    exact ⟨rfl, N2, e2⟩
set_option maxRecDepth 65536 in
set_option maxHeartbeats 40000000 in
theorem own_law_4 (l : Launch) (Z : State) (a0 : Array Value) (hw : ∀ d ∈ tables_1, d.before a0 Z = true) (ws : List Jvm.Cond) (a_DAILY a_MONTHLY a_SEMIANNUALLY a_ANNUALLY a_BIWEEKLY a_WEEKLY a_BIMONTHLY a_QUARTERLY a_U a_M : Addr) (p1 : Int32) (h0 : Heap) (n0 : Nat) (hp : own_Pin Z h0 a_DAILY a_MONTHLY a_SEMIANNUALLY a_ANNUALLY a_BIWEEKLY a_WEEKLY a_BIMONTHLY a_QUARTERLY a_U a_M) (hi : (p1 &&& (7 : Int32)) = (4 : Int32)) :
    MetFree l x (head1 (Jvm.Cond.code x code maxLocals ret :: ws) room_1) (fun a U => a = #[(.int p1)] ∧ Z.Warmed39 U.vm ∧ U.heap = h0) (fun _ _ _ _ _ => True) (fun _ U o U' => ∃ v L, o = .returned v ∧ own_Q (.int (1 : Int32)) h0 n0 v U'.heap L ∧ FrameEnd U o U' L room_1.cells room_1.slots) := by
  have hp' := hp
  obtain ⟨S_DAILY, S_MONTHLY, S_SEMIANNUALLY, S_ANNUALLY, S_BIWEEKLY, S_WEEKLY, S_BIMONTHLY, S_QUARTERLY, E_DAILY, E_MONTHLY, E_SEMIANNUALLY, E_ANNUALLY, E_BIWEEKLY, E_WEEKLY, E_BIMONTHLY, E_QUARTERLY, F_DAILY, F_MONTHLY, F_SEMIANNUALLY, F_ANNUALLY, F_BIWEEKLY, F_WEEKLY, F_BIMONTHLY, F_QUARTERLY, S_M, n_U_M⟩ := hp'
  refine MetFree.of_bodySF (plainFor_of_name own_pn1) hisR ?_
  intro p e s m args below meth c s₁ Bd hml0 hP hK
  obtain ⟨rfl, hZ, hh⟩ := hP
  have hx := Bd.exec
  have hby := Bd.bytes
  have hml : c.maxLocals = 4 := hml0
  have hown : s.vm.findClass "com/example/ledgerwheel/ledgerwheel/FrequencyKeepsAnAnchorDayPinLaw" = some m.cls := findClass_of_methodNamed Bd.named
  have X0 : Stand p l e room_1 s m #[(.int p1)] below meth c s₁ [] 0 0 := Stand.of_body Bd
  have e0 : s₁.heap = h0 := by rw [← hh, Bd.state]; rfl
  have N0 := Fr.nil n0
  have pre0 : ∀ t, Steps p.tables e below (s₁.setTop (mkF m 0 #[.val (.int p1), .unset, .unset, .unset] [])) t → Steps p.tables e below (s₁.setTop (entryFrame m #[(.int p1)] maxLocals)) t := fun t k => castTop (by first | (simp [entryFrame, mkF, argsToLocals, Value.category, maxLocals]; done) | rfl) k
  obtain ⟨T1, X1, e1, st1⟩ := getS X0 hx hZ hown (host := "") (hw _ (List.mem_of_getElem? (i := 22) rfl)) Via.refl e0 S_BIMONTHLY (g := (mkF m 65 #[.val (.int p1), .val (.int (4 : Int32)), .unset, .unset] [])) rfl (hb hby at_65)
  obtain ⟨cq2, kq2, q2a, q2b, q2c⟩ := isOf hZ e1 E_BIMONTHLY
  obtain ⟨_, _, ⟨T2, L2, k2, n2⟩, -, X2, ⟨Lc2, hQ2, l2, y2, z2⟩, st2⟩ := X1.virtualBack hx (y := (⟨"com/example/ledgerwheel/ledgerwheel/Frequency", "keepsAnAnchorDay", "()Z"⟩ : MethodName)) (z := (⟨"com/example/ledgerwheel/ledgerwheel/Frequency", "keepsAnAnchorDay", "()Z"⟩ : MethodName)) hown (mvT hZ (hw _ (List.mem_of_getElem? (i := 3) rfl))) (mvT hZ (hw _ (List.mem_of_getElem? (i := 4) rfl))) (notFace_of_selects (args := #[]) (mvT hZ (hw _ (List.mem_of_getElem? (i := 6) rfl)))) (mvT hZ (hw _ (List.mem_of_getElem? (i := 6) rfl))) (mvT hZ (hw _ (List.mem_of_getElem? (i := 5) rfl))) (by decide) (backOf (W := 0) (own_b1_4 l Z a0 hw [] a_DAILY a_MONTHLY a_SEMIANNUALLY a_ANNUALLY a_BIWEEKLY a_WEEKLY a_BIMONTHLY a_QUARTERLY a_U a_M  h0 n0 hp) hZ (hw _ (List.mem_of_getElem? (i := 7) rfl)) (hw _ (List.mem_of_getElem? (i := 1) rfl)) (by decide) (by decide)) q2a q2c (g := (mkF m 110 #[.val (.int p1), .val (.int (4 : Int32)), .val (.ref a_BIMONTHLY), .val (.int (1 : Int32))] [(.ref a_BIMONTHLY)])) rfl (by rw [hml]; rfl) (Steps.refl _) (argsL := []) (rest := []) (lenOf own_pd0 rfl) rfl (by show 2 * 0 + _ ≤ _; exact Nat.le_of_eq rfl) (hb hby at_110) (fun _ _ => ⟨rfl, e1, (by decide : 0 + 0 ≤ _), (by decide : 0 + 0 ≤ _)⟩)
  dsimp only [Pt.U, Pt.locs, Pt.cells, Pt.slots] at X2 l2 y2 z2 st2 hQ2
  subst l2 y2 z2
  obtain ⟨rfl, N2q, e2⟩ := hQ2
  have N2 := Fr.app N0 N2q
  obtain ⟨fs, hr, hrun, hended, hW, hsame⟩ := X2.leave (v := some (.int (1 : Int32))) (fun h => by rw [Bd.returns] at h; cases h)
  refine ⟨_, _, pre0 _ ?_, hrun, hended, _, _, rfl, ?_, ⟨_, rfl⟩, hW, hsame.mono (by decide) (by decide)⟩
  · show Steps p.tables e below (s₁.setTop (mkF m 0 #[.val (.int p1), .unset, .unset, .unset] [])) _
    refine XS.iloadN X0.here hx rfl (hb hby at_0) rfl ?_
    show Steps p.tables e below (s₁.setTop (mkF m 1 #[.val (.int p1), .unset, .unset, .unset] [(.int p1)])) _
    refine XS.bipush X0.here hx rfl (hb hby at_1) ?_
    show Steps p.tables e below (s₁.setTop (mkF m 3 #[.val (.int p1), .unset, .unset, .unset] [(.int (7 : Int32)), (.int p1)])) _
    refine XS.iand X0.here hx rfl (hb hby at_3) rfl ?_
    show Steps p.tables e below (s₁.setTop (mkF m 4 #[.val (.int p1), .unset, .unset, .unset] [(.int (p1 &&& (7 : Int32)))])) _
    rewrite [hi]
    show Steps p.tables e below (s₁.setTop (mkF m 4 #[.val (.int p1), .unset, .unset, .unset] [(.int (4 : Int32))])) _
    refine XS.istoreN X0.here hx rfl (hb hby at_4) rfl (l' := #[.val (.int p1), .val (.int (4 : Int32)), .unset, .unset]) rfl ?_
    show Steps p.tables e below (s₁.setTop (mkF m 5 #[.val (.int p1), .val (.int (4 : Int32)), .unset, .unset] [])) _
    refine XS.iloadN X0.here hx rfl (hb hby at_5) rfl ?_
    show Steps p.tables e below (s₁.setTop (mkF m 6 #[.val (.int p1), .val (.int (4 : Int32)), .unset, .unset] [(.int (4 : Int32))])) _
    refine XS.ifYes X0.here hx rfl (pc0 := 6) (pc' := 18) rfl (hb hby at_6) rfl (by decide) (by decide) (by decide) ?_
    show Steps p.tables e below (s₁.setTop (mkF m 18 #[.val (.int p1), .val (.int (4 : Int32)), .unset, .unset] [])) _
    refine XS.iloadN X0.here hx rfl (hb hby at_18) rfl ?_
    show Steps p.tables e below (s₁.setTop (mkF m 19 #[.val (.int p1), .val (.int (4 : Int32)), .unset, .unset] [(.int (4 : Int32))])) _
    refine XS.iconst X0.here hx rfl (hb hby at_19) ?_
    show Steps p.tables e below (s₁.setTop (mkF m 20 #[.val (.int p1), .val (.int (4 : Int32)), .unset, .unset] [(.int (1 : Int32)), (.int (4 : Int32))])) _
    refine XS.icmpYes X0.here hx rfl (pc0 := 20) (pc' := 32) rfl (hb hby at_20) rfl (by decide) (by decide) (by decide) ?_
    show Steps p.tables e below (s₁.setTop (mkF m 32 #[.val (.int p1), .val (.int (4 : Int32)), .unset, .unset] [])) _
    refine XS.iloadN X0.here hx rfl (hb hby at_32) rfl ?_
    show Steps p.tables e below (s₁.setTop (mkF m 33 #[.val (.int p1), .val (.int (4 : Int32)), .unset, .unset] [(.int (4 : Int32))])) _
    refine XS.iconst X0.here hx rfl (hb hby at_33) ?_
    show Steps p.tables e below (s₁.setTop (mkF m 34 #[.val (.int p1), .val (.int (4 : Int32)), .unset, .unset] [(.int (2 : Int32)), (.int (4 : Int32))])) _
    refine XS.icmpYes X0.here hx rfl (pc0 := 34) (pc' := 46) rfl (hb hby at_34) rfl (by decide) (by decide) (by decide) ?_
    show Steps p.tables e below (s₁.setTop (mkF m 46 #[.val (.int p1), .val (.int (4 : Int32)), .unset, .unset] [])) _
    refine XS.iloadN X0.here hx rfl (hb hby at_46) rfl ?_
    show Steps p.tables e below (s₁.setTop (mkF m 47 #[.val (.int p1), .val (.int (4 : Int32)), .unset, .unset] [(.int (4 : Int32))])) _
    refine XS.iconst X0.here hx rfl (hb hby at_47) ?_
    show Steps p.tables e below (s₁.setTop (mkF m 48 #[.val (.int p1), .val (.int (4 : Int32)), .unset, .unset] [(.int (3 : Int32)), (.int (4 : Int32))])) _
    refine XS.icmpYes X0.here hx rfl (pc0 := 48) (pc' := 60) rfl (hb hby at_48) rfl (by decide) (by decide) (by decide) ?_
    show Steps p.tables e below (s₁.setTop (mkF m 60 #[.val (.int p1), .val (.int (4 : Int32)), .unset, .unset] [])) _
    refine XS.iloadN X0.here hx rfl (hb hby at_60) rfl ?_
    show Steps p.tables e below (s₁.setTop (mkF m 61 #[.val (.int p1), .val (.int (4 : Int32)), .unset, .unset] [(.int (4 : Int32))])) _
    refine XS.iconst X0.here hx rfl (hb hby at_61) ?_
    show Steps p.tables e below (s₁.setTop (mkF m 62 #[.val (.int p1), .val (.int (4 : Int32)), .unset, .unset] [(.int (4 : Int32)), (.int (4 : Int32))])) _
    refine XS.icmpNo X0.here hx rfl (hb hby at_62) rfl (by decide) ?_
    show Steps p.tables e below (s₁.setTop (mkF m 65 #[.val (.int p1), .val (.int (4 : Int32)), .unset, .unset] [])) _
    refine st1 _ ?_
    show Steps p.tables e below (T1.setTop (mkF m 68 #[.val (.int p1), .val (.int (4 : Int32)), .unset, .unset] [(.ref a_BIMONTHLY)])) _
    refine XS.astoreN X1.here hx rfl (hb hby at_68) rfl rfl (l' := #[.val (.int p1), .val (.int (4 : Int32)), .val (.ref a_BIMONTHLY), .unset]) rfl ?_
    show Steps p.tables e below (T1.setTop (mkF m 69 #[.val (.int p1), .val (.int (4 : Int32)), .val (.ref a_BIMONTHLY), .unset] [])) _
    refine XS.iconst X1.here hx rfl (hb hby at_69) ?_
    show Steps p.tables e below (T1.setTop (mkF m 70 #[.val (.int p1), .val (.int (4 : Int32)), .val (.ref a_BIMONTHLY), .unset] [(.int (1 : Int32))])) _
    refine XS.istoreN X1.here hx rfl (hb hby at_70) rfl (l' := #[.val (.int p1), .val (.int (4 : Int32)), .val (.ref a_BIMONTHLY), .val (.int (1 : Int32))]) rfl ?_
    show Steps p.tables e below (T1.setTop (mkF m 71 #[.val (.int p1), .val (.int (4 : Int32)), .val (.ref a_BIMONTHLY), .val (.int (1 : Int32))] [])) _
    refine XS.goto X1.here hx rfl (pc0 := 71) (pc' := 109) rfl (hb hby at_71) (by decide) (by decide) ?_
    show Steps p.tables e below (T1.setTop (mkF m 109 #[.val (.int p1), .val (.int (4 : Int32)), .val (.ref a_BIMONTHLY), .val (.int (1 : Int32))] [])) _
    refine XS.aloadN X1.here hx rfl (hb hby at_109) rfl rfl ?_
    show Steps p.tables e below (T1.setTop (mkF m 110 #[.val (.int p1), .val (.int (4 : Int32)), .val (.ref a_BIMONTHLY), .val (.int (1 : Int32))] [(.ref a_BIMONTHLY)])) _
    refine st2.trans ?_
    show Steps p.tables e below (T2.setTop (mkF m 113 #[.val (.int p1), .val (.int (4 : Int32)), .val (.ref a_BIMONTHLY), .val (.int (1 : Int32))] [(.int (1 : Int32))])) _
    refine XS.iloadN X2.here hx rfl (hb hby at_113) rfl ?_
    show Steps p.tables e below (T2.setTop (mkF m 114 #[.val (.int p1), .val (.int (4 : Int32)), .val (.ref a_BIMONTHLY), .val (.int (1 : Int32))] [(.int (1 : Int32)), (.int (1 : Int32))])) _
    refine XS.icmpNo X2.here hx rfl (hb hby at_114) rfl (by decide) ?_
    show Steps p.tables e below (T2.setTop (mkF m 117 #[.val (.int p1), .val (.int (4 : Int32)), .val (.ref a_BIMONTHLY), .val (.int (1 : Int32))] [])) _
    refine XS.iconst X2.here hx rfl (hb hby at_117) ?_
    show Steps p.tables e below (T2.setTop (mkF m 118 #[.val (.int p1), .val (.int (4 : Int32)), .val (.ref a_BIMONTHLY), .val (.int (1 : Int32))] [(.int (1 : Int32))])) _
    refine XS.goto X2.here hx rfl (pc0 := 118) (pc' := 122) rfl (hb hby at_118) (by decide) (by decide) ?_
    show Steps p.tables e below (T2.setTop (mkF m 122 #[.val (.int p1), .val (.int (4 : Int32)), .val (.ref a_BIMONTHLY), .val (.int (1 : Int32))] [(.int (1 : Int32))])) _
    exact retN X2 hx (t := .boolean) Bd.returns (by simp) (hb hby at_122) hr
  · show own_Q _ h0 n0 _ T2.heap _
    exact ⟨rfl, N2, e2⟩
set_option maxRecDepth 65536 in
set_option maxHeartbeats 40000000 in
theorem own_law_5 (l : Launch) (Z : State) (a0 : Array Value) (hw : ∀ d ∈ tables_1, d.before a0 Z = true) (ws : List Jvm.Cond) (a_DAILY a_MONTHLY a_SEMIANNUALLY a_ANNUALLY a_BIWEEKLY a_WEEKLY a_BIMONTHLY a_QUARTERLY a_U a_M : Addr) (p1 : Int32) (h0 : Heap) (n0 : Nat) (hp : own_Pin Z h0 a_DAILY a_MONTHLY a_SEMIANNUALLY a_ANNUALLY a_BIWEEKLY a_WEEKLY a_BIMONTHLY a_QUARTERLY a_U a_M) (hi : (p1 &&& (7 : Int32)) = (5 : Int32)) :
    MetFree l x (head1 (Jvm.Cond.code x code maxLocals ret :: ws) room_1) (fun a U => a = #[(.int p1)] ∧ Z.Warmed39 U.vm ∧ U.heap = h0) (fun _ _ _ _ _ => True) (fun _ U o U' => ∃ v L, o = .returned v ∧ own_Q (.int (1 : Int32)) h0 n0 v U'.heap L ∧ FrameEnd U o U' L room_1.cells room_1.slots) := by
  have hp' := hp
  obtain ⟨S_DAILY, S_MONTHLY, S_SEMIANNUALLY, S_ANNUALLY, S_BIWEEKLY, S_WEEKLY, S_BIMONTHLY, S_QUARTERLY, E_DAILY, E_MONTHLY, E_SEMIANNUALLY, E_ANNUALLY, E_BIWEEKLY, E_WEEKLY, E_BIMONTHLY, E_QUARTERLY, F_DAILY, F_MONTHLY, F_SEMIANNUALLY, F_ANNUALLY, F_BIWEEKLY, F_WEEKLY, F_BIMONTHLY, F_QUARTERLY, S_M, n_U_M⟩ := hp'
  refine MetFree.of_bodySF (plainFor_of_name own_pn1) hisR ?_
  intro p e s m args below meth c s₁ Bd hml0 hP hK
  obtain ⟨rfl, hZ, hh⟩ := hP
  have hx := Bd.exec
  have hby := Bd.bytes
  have hml : c.maxLocals = 4 := hml0
  have hown : s.vm.findClass "com/example/ledgerwheel/ledgerwheel/FrequencyKeepsAnAnchorDayPinLaw" = some m.cls := findClass_of_methodNamed Bd.named
  have X0 : Stand p l e room_1 s m #[(.int p1)] below meth c s₁ [] 0 0 := Stand.of_body Bd
  have e0 : s₁.heap = h0 := by rw [← hh, Bd.state]; rfl
  have N0 := Fr.nil n0
  have pre0 : ∀ t, Steps p.tables e below (s₁.setTop (mkF m 0 #[.val (.int p1), .unset, .unset, .unset] [])) t → Steps p.tables e below (s₁.setTop (entryFrame m #[(.int p1)] maxLocals)) t := fun t k => castTop (by first | (simp [entryFrame, mkF, argsToLocals, Value.category, maxLocals]; done) | rfl) k
  obtain ⟨T1, X1, e1, st1⟩ := getS X0 hx hZ hown (host := "") (hw _ (List.mem_of_getElem? (i := 24) rfl)) Via.refl e0 S_QUARTERLY (g := (mkF m 79 #[.val (.int p1), .val (.int (5 : Int32)), .unset, .unset] [])) rfl (hb hby at_79)
  obtain ⟨cq2, kq2, q2a, q2b, q2c⟩ := isOf hZ e1 E_QUARTERLY
  obtain ⟨_, _, ⟨T2, L2, k2, n2⟩, -, X2, ⟨Lc2, hQ2, l2, y2, z2⟩, st2⟩ := X1.virtualBack hx (y := (⟨"com/example/ledgerwheel/ledgerwheel/Frequency", "keepsAnAnchorDay", "()Z"⟩ : MethodName)) (z := (⟨"com/example/ledgerwheel/ledgerwheel/Frequency", "keepsAnAnchorDay", "()Z"⟩ : MethodName)) hown (mvT hZ (hw _ (List.mem_of_getElem? (i := 3) rfl))) (mvT hZ (hw _ (List.mem_of_getElem? (i := 4) rfl))) (notFace_of_selects (args := #[]) (mvT hZ (hw _ (List.mem_of_getElem? (i := 6) rfl)))) (mvT hZ (hw _ (List.mem_of_getElem? (i := 6) rfl))) (mvT hZ (hw _ (List.mem_of_getElem? (i := 5) rfl))) (by decide) (backOf (W := 0) (own_b1_5 l Z a0 hw [] a_DAILY a_MONTHLY a_SEMIANNUALLY a_ANNUALLY a_BIWEEKLY a_WEEKLY a_BIMONTHLY a_QUARTERLY a_U a_M  h0 n0 hp) hZ (hw _ (List.mem_of_getElem? (i := 7) rfl)) (hw _ (List.mem_of_getElem? (i := 1) rfl)) (by decide) (by decide)) q2a q2c (g := (mkF m 110 #[.val (.int p1), .val (.int (5 : Int32)), .val (.ref a_QUARTERLY), .val (.int (1 : Int32))] [(.ref a_QUARTERLY)])) rfl (by rw [hml]; rfl) (Steps.refl _) (argsL := []) (rest := []) (lenOf own_pd0 rfl) rfl (by show 2 * 0 + _ ≤ _; exact Nat.le_of_eq rfl) (hb hby at_110) (fun _ _ => ⟨rfl, e1, (by decide : 0 + 0 ≤ _), (by decide : 0 + 0 ≤ _)⟩)
  dsimp only [Pt.U, Pt.locs, Pt.cells, Pt.slots] at X2 l2 y2 z2 st2 hQ2
  subst l2 y2 z2
  obtain ⟨rfl, N2q, e2⟩ := hQ2
  have N2 := Fr.app N0 N2q
  obtain ⟨fs, hr, hrun, hended, hW, hsame⟩ := X2.leave (v := some (.int (1 : Int32))) (fun h => by rw [Bd.returns] at h; cases h)
  refine ⟨_, _, pre0 _ ?_, hrun, hended, _, _, rfl, ?_, ⟨_, rfl⟩, hW, hsame.mono (by decide) (by decide)⟩
  · show Steps p.tables e below (s₁.setTop (mkF m 0 #[.val (.int p1), .unset, .unset, .unset] [])) _
    refine XS.iloadN X0.here hx rfl (hb hby at_0) rfl ?_
    show Steps p.tables e below (s₁.setTop (mkF m 1 #[.val (.int p1), .unset, .unset, .unset] [(.int p1)])) _
    refine XS.bipush X0.here hx rfl (hb hby at_1) ?_
    show Steps p.tables e below (s₁.setTop (mkF m 3 #[.val (.int p1), .unset, .unset, .unset] [(.int (7 : Int32)), (.int p1)])) _
    refine XS.iand X0.here hx rfl (hb hby at_3) rfl ?_
    show Steps p.tables e below (s₁.setTop (mkF m 4 #[.val (.int p1), .unset, .unset, .unset] [(.int (p1 &&& (7 : Int32)))])) _
    rewrite [hi]
    show Steps p.tables e below (s₁.setTop (mkF m 4 #[.val (.int p1), .unset, .unset, .unset] [(.int (5 : Int32))])) _
    refine XS.istoreN X0.here hx rfl (hb hby at_4) rfl (l' := #[.val (.int p1), .val (.int (5 : Int32)), .unset, .unset]) rfl ?_
    show Steps p.tables e below (s₁.setTop (mkF m 5 #[.val (.int p1), .val (.int (5 : Int32)), .unset, .unset] [])) _
    refine XS.iloadN X0.here hx rfl (hb hby at_5) rfl ?_
    show Steps p.tables e below (s₁.setTop (mkF m 6 #[.val (.int p1), .val (.int (5 : Int32)), .unset, .unset] [(.int (5 : Int32))])) _
    refine XS.ifYes X0.here hx rfl (pc0 := 6) (pc' := 18) rfl (hb hby at_6) rfl (by decide) (by decide) (by decide) ?_
    show Steps p.tables e below (s₁.setTop (mkF m 18 #[.val (.int p1), .val (.int (5 : Int32)), .unset, .unset] [])) _
    refine XS.iloadN X0.here hx rfl (hb hby at_18) rfl ?_
    show Steps p.tables e below (s₁.setTop (mkF m 19 #[.val (.int p1), .val (.int (5 : Int32)), .unset, .unset] [(.int (5 : Int32))])) _
    refine XS.iconst X0.here hx rfl (hb hby at_19) ?_
    show Steps p.tables e below (s₁.setTop (mkF m 20 #[.val (.int p1), .val (.int (5 : Int32)), .unset, .unset] [(.int (1 : Int32)), (.int (5 : Int32))])) _
    refine XS.icmpYes X0.here hx rfl (pc0 := 20) (pc' := 32) rfl (hb hby at_20) rfl (by decide) (by decide) (by decide) ?_
    show Steps p.tables e below (s₁.setTop (mkF m 32 #[.val (.int p1), .val (.int (5 : Int32)), .unset, .unset] [])) _
    refine XS.iloadN X0.here hx rfl (hb hby at_32) rfl ?_
    show Steps p.tables e below (s₁.setTop (mkF m 33 #[.val (.int p1), .val (.int (5 : Int32)), .unset, .unset] [(.int (5 : Int32))])) _
    refine XS.iconst X0.here hx rfl (hb hby at_33) ?_
    show Steps p.tables e below (s₁.setTop (mkF m 34 #[.val (.int p1), .val (.int (5 : Int32)), .unset, .unset] [(.int (2 : Int32)), (.int (5 : Int32))])) _
    refine XS.icmpYes X0.here hx rfl (pc0 := 34) (pc' := 46) rfl (hb hby at_34) rfl (by decide) (by decide) (by decide) ?_
    show Steps p.tables e below (s₁.setTop (mkF m 46 #[.val (.int p1), .val (.int (5 : Int32)), .unset, .unset] [])) _
    refine XS.iloadN X0.here hx rfl (hb hby at_46) rfl ?_
    show Steps p.tables e below (s₁.setTop (mkF m 47 #[.val (.int p1), .val (.int (5 : Int32)), .unset, .unset] [(.int (5 : Int32))])) _
    refine XS.iconst X0.here hx rfl (hb hby at_47) ?_
    show Steps p.tables e below (s₁.setTop (mkF m 48 #[.val (.int p1), .val (.int (5 : Int32)), .unset, .unset] [(.int (3 : Int32)), (.int (5 : Int32))])) _
    refine XS.icmpYes X0.here hx rfl (pc0 := 48) (pc' := 60) rfl (hb hby at_48) rfl (by decide) (by decide) (by decide) ?_
    show Steps p.tables e below (s₁.setTop (mkF m 60 #[.val (.int p1), .val (.int (5 : Int32)), .unset, .unset] [])) _
    refine XS.iloadN X0.here hx rfl (hb hby at_60) rfl ?_
    show Steps p.tables e below (s₁.setTop (mkF m 61 #[.val (.int p1), .val (.int (5 : Int32)), .unset, .unset] [(.int (5 : Int32))])) _
    refine XS.iconst X0.here hx rfl (hb hby at_61) ?_
    show Steps p.tables e below (s₁.setTop (mkF m 62 #[.val (.int p1), .val (.int (5 : Int32)), .unset, .unset] [(.int (4 : Int32)), (.int (5 : Int32))])) _
    refine XS.icmpYes X0.here hx rfl (pc0 := 62) (pc' := 74) rfl (hb hby at_62) rfl (by decide) (by decide) (by decide) ?_
    show Steps p.tables e below (s₁.setTop (mkF m 74 #[.val (.int p1), .val (.int (5 : Int32)), .unset, .unset] [])) _
    refine XS.iloadN X0.here hx rfl (hb hby at_74) rfl ?_
    show Steps p.tables e below (s₁.setTop (mkF m 75 #[.val (.int p1), .val (.int (5 : Int32)), .unset, .unset] [(.int (5 : Int32))])) _
    refine XS.iconst X0.here hx rfl (hb hby at_75) ?_
    show Steps p.tables e below (s₁.setTop (mkF m 76 #[.val (.int p1), .val (.int (5 : Int32)), .unset, .unset] [(.int (5 : Int32)), (.int (5 : Int32))])) _
    refine XS.icmpNo X0.here hx rfl (hb hby at_76) rfl (by decide) ?_
    show Steps p.tables e below (s₁.setTop (mkF m 79 #[.val (.int p1), .val (.int (5 : Int32)), .unset, .unset] [])) _
    refine st1 _ ?_
    show Steps p.tables e below (T1.setTop (mkF m 82 #[.val (.int p1), .val (.int (5 : Int32)), .unset, .unset] [(.ref a_QUARTERLY)])) _
    refine XS.astoreN X1.here hx rfl (hb hby at_82) rfl rfl (l' := #[.val (.int p1), .val (.int (5 : Int32)), .val (.ref a_QUARTERLY), .unset]) rfl ?_
    show Steps p.tables e below (T1.setTop (mkF m 83 #[.val (.int p1), .val (.int (5 : Int32)), .val (.ref a_QUARTERLY), .unset] [])) _
    refine XS.iconst X1.here hx rfl (hb hby at_83) ?_
    show Steps p.tables e below (T1.setTop (mkF m 84 #[.val (.int p1), .val (.int (5 : Int32)), .val (.ref a_QUARTERLY), .unset] [(.int (1 : Int32))])) _
    refine XS.istoreN X1.here hx rfl (hb hby at_84) rfl (l' := #[.val (.int p1), .val (.int (5 : Int32)), .val (.ref a_QUARTERLY), .val (.int (1 : Int32))]) rfl ?_
    show Steps p.tables e below (T1.setTop (mkF m 85 #[.val (.int p1), .val (.int (5 : Int32)), .val (.ref a_QUARTERLY), .val (.int (1 : Int32))] [])) _
    refine XS.goto X1.here hx rfl (pc0 := 85) (pc' := 109) rfl (hb hby at_85) (by decide) (by decide) ?_
    show Steps p.tables e below (T1.setTop (mkF m 109 #[.val (.int p1), .val (.int (5 : Int32)), .val (.ref a_QUARTERLY), .val (.int (1 : Int32))] [])) _
    refine XS.aloadN X1.here hx rfl (hb hby at_109) rfl rfl ?_
    show Steps p.tables e below (T1.setTop (mkF m 110 #[.val (.int p1), .val (.int (5 : Int32)), .val (.ref a_QUARTERLY), .val (.int (1 : Int32))] [(.ref a_QUARTERLY)])) _
    refine st2.trans ?_
    show Steps p.tables e below (T2.setTop (mkF m 113 #[.val (.int p1), .val (.int (5 : Int32)), .val (.ref a_QUARTERLY), .val (.int (1 : Int32))] [(.int (1 : Int32))])) _
    refine XS.iloadN X2.here hx rfl (hb hby at_113) rfl ?_
    show Steps p.tables e below (T2.setTop (mkF m 114 #[.val (.int p1), .val (.int (5 : Int32)), .val (.ref a_QUARTERLY), .val (.int (1 : Int32))] [(.int (1 : Int32)), (.int (1 : Int32))])) _
    refine XS.icmpNo X2.here hx rfl (hb hby at_114) rfl (by decide) ?_
    show Steps p.tables e below (T2.setTop (mkF m 117 #[.val (.int p1), .val (.int (5 : Int32)), .val (.ref a_QUARTERLY), .val (.int (1 : Int32))] [])) _
    refine XS.iconst X2.here hx rfl (hb hby at_117) ?_
    show Steps p.tables e below (T2.setTop (mkF m 118 #[.val (.int p1), .val (.int (5 : Int32)), .val (.ref a_QUARTERLY), .val (.int (1 : Int32))] [(.int (1 : Int32))])) _
    refine XS.goto X2.here hx rfl (pc0 := 118) (pc' := 122) rfl (hb hby at_118) (by decide) (by decide) ?_
    show Steps p.tables e below (T2.setTop (mkF m 122 #[.val (.int p1), .val (.int (5 : Int32)), .val (.ref a_QUARTERLY), .val (.int (1 : Int32))] [(.int (1 : Int32))])) _
    exact retN X2 hx (t := .boolean) Bd.returns (by simp) (hb hby at_122) hr
  · show own_Q _ h0 n0 _ T2.heap _
    exact ⟨rfl, N2, e2⟩
set_option maxRecDepth 65536 in
set_option maxHeartbeats 40000000 in
theorem own_law_6 (l : Launch) (Z : State) (a0 : Array Value) (hw : ∀ d ∈ tables_1, d.before a0 Z = true) (ws : List Jvm.Cond) (a_DAILY a_MONTHLY a_SEMIANNUALLY a_ANNUALLY a_BIWEEKLY a_WEEKLY a_BIMONTHLY a_QUARTERLY a_U a_M : Addr) (p1 : Int32) (h0 : Heap) (n0 : Nat) (hp : own_Pin Z h0 a_DAILY a_MONTHLY a_SEMIANNUALLY a_ANNUALLY a_BIWEEKLY a_WEEKLY a_BIMONTHLY a_QUARTERLY a_U a_M) (hi : (p1 &&& (7 : Int32)) = (6 : Int32)) :
    MetFree l x (head1 (Jvm.Cond.code x code maxLocals ret :: ws) room_1) (fun a U => a = #[(.int p1)] ∧ Z.Warmed39 U.vm ∧ U.heap = h0) (fun _ _ _ _ _ => True) (fun _ U o U' => ∃ v L, o = .returned v ∧ own_Q (.int (1 : Int32)) h0 n0 v U'.heap L ∧ FrameEnd U o U' L room_1.cells room_1.slots) := by
  have hp' := hp
  obtain ⟨S_DAILY, S_MONTHLY, S_SEMIANNUALLY, S_ANNUALLY, S_BIWEEKLY, S_WEEKLY, S_BIMONTHLY, S_QUARTERLY, E_DAILY, E_MONTHLY, E_SEMIANNUALLY, E_ANNUALLY, E_BIWEEKLY, E_WEEKLY, E_BIMONTHLY, E_QUARTERLY, F_DAILY, F_MONTHLY, F_SEMIANNUALLY, F_ANNUALLY, F_BIWEEKLY, F_WEEKLY, F_BIMONTHLY, F_QUARTERLY, S_M, n_U_M⟩ := hp'
  refine MetFree.of_bodySF (plainFor_of_name own_pn1) hisR ?_
  intro p e s m args below meth c s₁ Bd hml0 hP hK
  obtain ⟨rfl, hZ, hh⟩ := hP
  have hx := Bd.exec
  have hby := Bd.bytes
  have hml : c.maxLocals = 4 := hml0
  have hown : s.vm.findClass "com/example/ledgerwheel/ledgerwheel/FrequencyKeepsAnAnchorDayPinLaw" = some m.cls := findClass_of_methodNamed Bd.named
  have X0 : Stand p l e room_1 s m #[(.int p1)] below meth c s₁ [] 0 0 := Stand.of_body Bd
  have e0 : s₁.heap = h0 := by rw [← hh, Bd.state]; rfl
  have N0 := Fr.nil n0
  have pre0 : ∀ t, Steps p.tables e below (s₁.setTop (mkF m 0 #[.val (.int p1), .unset, .unset, .unset] [])) t → Steps p.tables e below (s₁.setTop (entryFrame m #[(.int p1)] maxLocals)) t := fun t k => castTop (by first | (simp [entryFrame, mkF, argsToLocals, Value.category, maxLocals]; done) | rfl) k
  obtain ⟨T1, X1, e1, st1⟩ := getS X0 hx hZ hown (host := "") (hw _ (List.mem_of_getElem? (i := 14) rfl)) Via.refl e0 S_SEMIANNUALLY (g := (mkF m 94 #[.val (.int p1), .val (.int (6 : Int32)), .unset, .unset] [])) rfl (hb hby at_94)
  obtain ⟨cq2, kq2, q2a, q2b, q2c⟩ := isOf hZ e1 E_SEMIANNUALLY
  obtain ⟨_, _, ⟨T2, L2, k2, n2⟩, -, X2, ⟨Lc2, hQ2, l2, y2, z2⟩, st2⟩ := X1.virtualBack hx (y := (⟨"com/example/ledgerwheel/ledgerwheel/Frequency", "keepsAnAnchorDay", "()Z"⟩ : MethodName)) (z := (⟨"com/example/ledgerwheel/ledgerwheel/Frequency", "keepsAnAnchorDay", "()Z"⟩ : MethodName)) hown (mvT hZ (hw _ (List.mem_of_getElem? (i := 3) rfl))) (mvT hZ (hw _ (List.mem_of_getElem? (i := 4) rfl))) (notFace_of_selects (args := #[]) (mvT hZ (hw _ (List.mem_of_getElem? (i := 6) rfl)))) (mvT hZ (hw _ (List.mem_of_getElem? (i := 6) rfl))) (mvT hZ (hw _ (List.mem_of_getElem? (i := 5) rfl))) (by decide) (backOf (W := 0) (own_b1_6 l Z a0 hw [] a_DAILY a_MONTHLY a_SEMIANNUALLY a_ANNUALLY a_BIWEEKLY a_WEEKLY a_BIMONTHLY a_QUARTERLY a_U a_M  h0 n0 hp) hZ (hw _ (List.mem_of_getElem? (i := 7) rfl)) (hw _ (List.mem_of_getElem? (i := 1) rfl)) (by decide) (by decide)) q2a q2c (g := (mkF m 110 #[.val (.int p1), .val (.int (6 : Int32)), .val (.ref a_SEMIANNUALLY), .val (.int (1 : Int32))] [(.ref a_SEMIANNUALLY)])) rfl (by rw [hml]; rfl) (Steps.refl _) (argsL := []) (rest := []) (lenOf own_pd0 rfl) rfl (by show 2 * 0 + _ ≤ _; exact Nat.le_of_eq rfl) (hb hby at_110) (fun _ _ => ⟨rfl, e1, (by decide : 0 + 0 ≤ _), (by decide : 0 + 0 ≤ _)⟩)
  dsimp only [Pt.U, Pt.locs, Pt.cells, Pt.slots] at X2 l2 y2 z2 st2 hQ2
  subst l2 y2 z2
  obtain ⟨rfl, N2q, e2⟩ := hQ2
  have N2 := Fr.app N0 N2q
  obtain ⟨fs, hr, hrun, hended, hW, hsame⟩ := X2.leave (v := some (.int (1 : Int32))) (fun h => by rw [Bd.returns] at h; cases h)
  refine ⟨_, _, pre0 _ ?_, hrun, hended, _, _, rfl, ?_, ⟨_, rfl⟩, hW, hsame.mono (by decide) (by decide)⟩
  · show Steps p.tables e below (s₁.setTop (mkF m 0 #[.val (.int p1), .unset, .unset, .unset] [])) _
    refine XS.iloadN X0.here hx rfl (hb hby at_0) rfl ?_
    show Steps p.tables e below (s₁.setTop (mkF m 1 #[.val (.int p1), .unset, .unset, .unset] [(.int p1)])) _
    refine XS.bipush X0.here hx rfl (hb hby at_1) ?_
    show Steps p.tables e below (s₁.setTop (mkF m 3 #[.val (.int p1), .unset, .unset, .unset] [(.int (7 : Int32)), (.int p1)])) _
    refine XS.iand X0.here hx rfl (hb hby at_3) rfl ?_
    show Steps p.tables e below (s₁.setTop (mkF m 4 #[.val (.int p1), .unset, .unset, .unset] [(.int (p1 &&& (7 : Int32)))])) _
    rewrite [hi]
    show Steps p.tables e below (s₁.setTop (mkF m 4 #[.val (.int p1), .unset, .unset, .unset] [(.int (6 : Int32))])) _
    refine XS.istoreN X0.here hx rfl (hb hby at_4) rfl (l' := #[.val (.int p1), .val (.int (6 : Int32)), .unset, .unset]) rfl ?_
    show Steps p.tables e below (s₁.setTop (mkF m 5 #[.val (.int p1), .val (.int (6 : Int32)), .unset, .unset] [])) _
    refine XS.iloadN X0.here hx rfl (hb hby at_5) rfl ?_
    show Steps p.tables e below (s₁.setTop (mkF m 6 #[.val (.int p1), .val (.int (6 : Int32)), .unset, .unset] [(.int (6 : Int32))])) _
    refine XS.ifYes X0.here hx rfl (pc0 := 6) (pc' := 18) rfl (hb hby at_6) rfl (by decide) (by decide) (by decide) ?_
    show Steps p.tables e below (s₁.setTop (mkF m 18 #[.val (.int p1), .val (.int (6 : Int32)), .unset, .unset] [])) _
    refine XS.iloadN X0.here hx rfl (hb hby at_18) rfl ?_
    show Steps p.tables e below (s₁.setTop (mkF m 19 #[.val (.int p1), .val (.int (6 : Int32)), .unset, .unset] [(.int (6 : Int32))])) _
    refine XS.iconst X0.here hx rfl (hb hby at_19) ?_
    show Steps p.tables e below (s₁.setTop (mkF m 20 #[.val (.int p1), .val (.int (6 : Int32)), .unset, .unset] [(.int (1 : Int32)), (.int (6 : Int32))])) _
    refine XS.icmpYes X0.here hx rfl (pc0 := 20) (pc' := 32) rfl (hb hby at_20) rfl (by decide) (by decide) (by decide) ?_
    show Steps p.tables e below (s₁.setTop (mkF m 32 #[.val (.int p1), .val (.int (6 : Int32)), .unset, .unset] [])) _
    refine XS.iloadN X0.here hx rfl (hb hby at_32) rfl ?_
    show Steps p.tables e below (s₁.setTop (mkF m 33 #[.val (.int p1), .val (.int (6 : Int32)), .unset, .unset] [(.int (6 : Int32))])) _
    refine XS.iconst X0.here hx rfl (hb hby at_33) ?_
    show Steps p.tables e below (s₁.setTop (mkF m 34 #[.val (.int p1), .val (.int (6 : Int32)), .unset, .unset] [(.int (2 : Int32)), (.int (6 : Int32))])) _
    refine XS.icmpYes X0.here hx rfl (pc0 := 34) (pc' := 46) rfl (hb hby at_34) rfl (by decide) (by decide) (by decide) ?_
    show Steps p.tables e below (s₁.setTop (mkF m 46 #[.val (.int p1), .val (.int (6 : Int32)), .unset, .unset] [])) _
    refine XS.iloadN X0.here hx rfl (hb hby at_46) rfl ?_
    show Steps p.tables e below (s₁.setTop (mkF m 47 #[.val (.int p1), .val (.int (6 : Int32)), .unset, .unset] [(.int (6 : Int32))])) _
    refine XS.iconst X0.here hx rfl (hb hby at_47) ?_
    show Steps p.tables e below (s₁.setTop (mkF m 48 #[.val (.int p1), .val (.int (6 : Int32)), .unset, .unset] [(.int (3 : Int32)), (.int (6 : Int32))])) _
    refine XS.icmpYes X0.here hx rfl (pc0 := 48) (pc' := 60) rfl (hb hby at_48) rfl (by decide) (by decide) (by decide) ?_
    show Steps p.tables e below (s₁.setTop (mkF m 60 #[.val (.int p1), .val (.int (6 : Int32)), .unset, .unset] [])) _
    refine XS.iloadN X0.here hx rfl (hb hby at_60) rfl ?_
    show Steps p.tables e below (s₁.setTop (mkF m 61 #[.val (.int p1), .val (.int (6 : Int32)), .unset, .unset] [(.int (6 : Int32))])) _
    refine XS.iconst X0.here hx rfl (hb hby at_61) ?_
    show Steps p.tables e below (s₁.setTop (mkF m 62 #[.val (.int p1), .val (.int (6 : Int32)), .unset, .unset] [(.int (4 : Int32)), (.int (6 : Int32))])) _
    refine XS.icmpYes X0.here hx rfl (pc0 := 62) (pc' := 74) rfl (hb hby at_62) rfl (by decide) (by decide) (by decide) ?_
    show Steps p.tables e below (s₁.setTop (mkF m 74 #[.val (.int p1), .val (.int (6 : Int32)), .unset, .unset] [])) _
    refine XS.iloadN X0.here hx rfl (hb hby at_74) rfl ?_
    show Steps p.tables e below (s₁.setTop (mkF m 75 #[.val (.int p1), .val (.int (6 : Int32)), .unset, .unset] [(.int (6 : Int32))])) _
    refine XS.iconst X0.here hx rfl (hb hby at_75) ?_
    show Steps p.tables e below (s₁.setTop (mkF m 76 #[.val (.int p1), .val (.int (6 : Int32)), .unset, .unset] [(.int (5 : Int32)), (.int (6 : Int32))])) _
    refine XS.icmpYes X0.here hx rfl (pc0 := 76) (pc' := 88) rfl (hb hby at_76) rfl (by decide) (by decide) (by decide) ?_
    show Steps p.tables e below (s₁.setTop (mkF m 88 #[.val (.int p1), .val (.int (6 : Int32)), .unset, .unset] [])) _
    refine XS.iloadN X0.here hx rfl (hb hby at_88) rfl ?_
    show Steps p.tables e below (s₁.setTop (mkF m 89 #[.val (.int p1), .val (.int (6 : Int32)), .unset, .unset] [(.int (6 : Int32))])) _
    refine XS.bipush X0.here hx rfl (hb hby at_89) ?_
    show Steps p.tables e below (s₁.setTop (mkF m 91 #[.val (.int p1), .val (.int (6 : Int32)), .unset, .unset] [(.int (6 : Int32)), (.int (6 : Int32))])) _
    refine XS.icmpNo X0.here hx rfl (hb hby at_91) rfl (by decide) ?_
    show Steps p.tables e below (s₁.setTop (mkF m 94 #[.val (.int p1), .val (.int (6 : Int32)), .unset, .unset] [])) _
    refine st1 _ ?_
    show Steps p.tables e below (T1.setTop (mkF m 97 #[.val (.int p1), .val (.int (6 : Int32)), .unset, .unset] [(.ref a_SEMIANNUALLY)])) _
    refine XS.astoreN X1.here hx rfl (hb hby at_97) rfl rfl (l' := #[.val (.int p1), .val (.int (6 : Int32)), .val (.ref a_SEMIANNUALLY), .unset]) rfl ?_
    show Steps p.tables e below (T1.setTop (mkF m 98 #[.val (.int p1), .val (.int (6 : Int32)), .val (.ref a_SEMIANNUALLY), .unset] [])) _
    refine XS.iconst X1.here hx rfl (hb hby at_98) ?_
    show Steps p.tables e below (T1.setTop (mkF m 99 #[.val (.int p1), .val (.int (6 : Int32)), .val (.ref a_SEMIANNUALLY), .unset] [(.int (1 : Int32))])) _
    refine XS.istoreN X1.here hx rfl (hb hby at_99) rfl (l' := #[.val (.int p1), .val (.int (6 : Int32)), .val (.ref a_SEMIANNUALLY), .val (.int (1 : Int32))]) rfl ?_
    show Steps p.tables e below (T1.setTop (mkF m 100 #[.val (.int p1), .val (.int (6 : Int32)), .val (.ref a_SEMIANNUALLY), .val (.int (1 : Int32))] [])) _
    refine XS.goto X1.here hx rfl (pc0 := 100) (pc' := 109) rfl (hb hby at_100) (by decide) (by decide) ?_
    show Steps p.tables e below (T1.setTop (mkF m 109 #[.val (.int p1), .val (.int (6 : Int32)), .val (.ref a_SEMIANNUALLY), .val (.int (1 : Int32))] [])) _
    refine XS.aloadN X1.here hx rfl (hb hby at_109) rfl rfl ?_
    show Steps p.tables e below (T1.setTop (mkF m 110 #[.val (.int p1), .val (.int (6 : Int32)), .val (.ref a_SEMIANNUALLY), .val (.int (1 : Int32))] [(.ref a_SEMIANNUALLY)])) _
    refine st2.trans ?_
    show Steps p.tables e below (T2.setTop (mkF m 113 #[.val (.int p1), .val (.int (6 : Int32)), .val (.ref a_SEMIANNUALLY), .val (.int (1 : Int32))] [(.int (1 : Int32))])) _
    refine XS.iloadN X2.here hx rfl (hb hby at_113) rfl ?_
    show Steps p.tables e below (T2.setTop (mkF m 114 #[.val (.int p1), .val (.int (6 : Int32)), .val (.ref a_SEMIANNUALLY), .val (.int (1 : Int32))] [(.int (1 : Int32)), (.int (1 : Int32))])) _
    refine XS.icmpNo X2.here hx rfl (hb hby at_114) rfl (by decide) ?_
    show Steps p.tables e below (T2.setTop (mkF m 117 #[.val (.int p1), .val (.int (6 : Int32)), .val (.ref a_SEMIANNUALLY), .val (.int (1 : Int32))] [])) _
    refine XS.iconst X2.here hx rfl (hb hby at_117) ?_
    show Steps p.tables e below (T2.setTop (mkF m 118 #[.val (.int p1), .val (.int (6 : Int32)), .val (.ref a_SEMIANNUALLY), .val (.int (1 : Int32))] [(.int (1 : Int32))])) _
    refine XS.goto X2.here hx rfl (pc0 := 118) (pc' := 122) rfl (hb hby at_118) (by decide) (by decide) ?_
    show Steps p.tables e below (T2.setTop (mkF m 122 #[.val (.int p1), .val (.int (6 : Int32)), .val (.ref a_SEMIANNUALLY), .val (.int (1 : Int32))] [(.int (1 : Int32))])) _
    exact retN X2 hx (t := .boolean) Bd.returns (by simp) (hb hby at_122) hr
  · show own_Q _ h0 n0 _ T2.heap _
    exact ⟨rfl, N2, e2⟩
set_option maxRecDepth 65536 in
set_option maxHeartbeats 40000000 in
theorem own_law_7 (l : Launch) (Z : State) (a0 : Array Value) (hw : ∀ d ∈ tables_1, d.before a0 Z = true) (ws : List Jvm.Cond) (a_DAILY a_MONTHLY a_SEMIANNUALLY a_ANNUALLY a_BIWEEKLY a_WEEKLY a_BIMONTHLY a_QUARTERLY a_U a_M : Addr) (p1 : Int32) (h0 : Heap) (n0 : Nat) (hp : own_Pin Z h0 a_DAILY a_MONTHLY a_SEMIANNUALLY a_ANNUALLY a_BIWEEKLY a_WEEKLY a_BIMONTHLY a_QUARTERLY a_U a_M) (hi : (p1 &&& (7 : Int32)) = (7 : Int32)) :
    MetFree l x (head1 (Jvm.Cond.code x code maxLocals ret :: ws) room_1) (fun a U => a = #[(.int p1)] ∧ Z.Warmed39 U.vm ∧ U.heap = h0) (fun _ _ _ _ _ => True) (fun _ U o U' => ∃ v L, o = .returned v ∧ own_Q (.int (1 : Int32)) h0 n0 v U'.heap L ∧ FrameEnd U o U' L room_1.cells room_1.slots) := by
  have hp' := hp
  obtain ⟨S_DAILY, S_MONTHLY, S_SEMIANNUALLY, S_ANNUALLY, S_BIWEEKLY, S_WEEKLY, S_BIMONTHLY, S_QUARTERLY, E_DAILY, E_MONTHLY, E_SEMIANNUALLY, E_ANNUALLY, E_BIWEEKLY, E_WEEKLY, E_BIMONTHLY, E_QUARTERLY, F_DAILY, F_MONTHLY, F_SEMIANNUALLY, F_ANNUALLY, F_BIWEEKLY, F_WEEKLY, F_BIMONTHLY, F_QUARTERLY, S_M, n_U_M⟩ := hp'
  refine MetFree.of_bodySF (plainFor_of_name own_pn1) hisR ?_
  intro p e s m args below meth c s₁ Bd hml0 hP hK
  obtain ⟨rfl, hZ, hh⟩ := hP
  have hx := Bd.exec
  have hby := Bd.bytes
  have hml : c.maxLocals = 4 := hml0
  have hown : s.vm.findClass "com/example/ledgerwheel/ledgerwheel/FrequencyKeepsAnAnchorDayPinLaw" = some m.cls := findClass_of_methodNamed Bd.named
  have X0 : Stand p l e room_1 s m #[(.int p1)] below meth c s₁ [] 0 0 := Stand.of_body Bd
  have e0 : s₁.heap = h0 := by rw [← hh, Bd.state]; rfl
  have N0 := Fr.nil n0
  have pre0 : ∀ t, Steps p.tables e below (s₁.setTop (mkF m 0 #[.val (.int p1), .unset, .unset, .unset] [])) t → Steps p.tables e below (s₁.setTop (entryFrame m #[(.int p1)] maxLocals)) t := fun t k => castTop (by first | (simp [entryFrame, mkF, argsToLocals, Value.category, maxLocals]; done) | rfl) k
  obtain ⟨T1, X1, e1, st1⟩ := getS X0 hx hZ hown (host := "") (hw _ (List.mem_of_getElem? (i := 16) rfl)) Via.refl e0 S_ANNUALLY (g := (mkF m 103 #[.val (.int p1), .val (.int (7 : Int32)), .unset, .unset] [])) rfl (hb hby at_103)
  obtain ⟨cq2, kq2, q2a, q2b, q2c⟩ := isOf hZ e1 E_ANNUALLY
  obtain ⟨_, _, ⟨T2, L2, k2, n2⟩, -, X2, ⟨Lc2, hQ2, l2, y2, z2⟩, st2⟩ := X1.virtualBack hx (y := (⟨"com/example/ledgerwheel/ledgerwheel/Frequency", "keepsAnAnchorDay", "()Z"⟩ : MethodName)) (z := (⟨"com/example/ledgerwheel/ledgerwheel/Frequency", "keepsAnAnchorDay", "()Z"⟩ : MethodName)) hown (mvT hZ (hw _ (List.mem_of_getElem? (i := 3) rfl))) (mvT hZ (hw _ (List.mem_of_getElem? (i := 4) rfl))) (notFace_of_selects (args := #[]) (mvT hZ (hw _ (List.mem_of_getElem? (i := 6) rfl)))) (mvT hZ (hw _ (List.mem_of_getElem? (i := 6) rfl))) (mvT hZ (hw _ (List.mem_of_getElem? (i := 5) rfl))) (by decide) (backOf (W := 0) (own_b1_7 l Z a0 hw [] a_DAILY a_MONTHLY a_SEMIANNUALLY a_ANNUALLY a_BIWEEKLY a_WEEKLY a_BIMONTHLY a_QUARTERLY a_U a_M  h0 n0 hp) hZ (hw _ (List.mem_of_getElem? (i := 7) rfl)) (hw _ (List.mem_of_getElem? (i := 1) rfl)) (by decide) (by decide)) q2a q2c (g := (mkF m 110 #[.val (.int p1), .val (.int (7 : Int32)), .val (.ref a_ANNUALLY), .val (.int (1 : Int32))] [(.ref a_ANNUALLY)])) rfl (by rw [hml]; rfl) (Steps.refl _) (argsL := []) (rest := []) (lenOf own_pd0 rfl) rfl (by show 2 * 0 + _ ≤ _; exact Nat.le_of_eq rfl) (hb hby at_110) (fun _ _ => ⟨rfl, e1, (by decide : 0 + 0 ≤ _), (by decide : 0 + 0 ≤ _)⟩)
  dsimp only [Pt.U, Pt.locs, Pt.cells, Pt.slots] at X2 l2 y2 z2 st2 hQ2
  subst l2 y2 z2
  obtain ⟨rfl, N2q, e2⟩ := hQ2
  have N2 := Fr.app N0 N2q
  obtain ⟨fs, hr, hrun, hended, hW, hsame⟩ := X2.leave (v := some (.int (1 : Int32))) (fun h => by rw [Bd.returns] at h; cases h)
  refine ⟨_, _, pre0 _ ?_, hrun, hended, _, _, rfl, ?_, ⟨_, rfl⟩, hW, hsame.mono (by decide) (by decide)⟩
  · show Steps p.tables e below (s₁.setTop (mkF m 0 #[.val (.int p1), .unset, .unset, .unset] [])) _
    refine XS.iloadN X0.here hx rfl (hb hby at_0) rfl ?_
    show Steps p.tables e below (s₁.setTop (mkF m 1 #[.val (.int p1), .unset, .unset, .unset] [(.int p1)])) _
    refine XS.bipush X0.here hx rfl (hb hby at_1) ?_
    show Steps p.tables e below (s₁.setTop (mkF m 3 #[.val (.int p1), .unset, .unset, .unset] [(.int (7 : Int32)), (.int p1)])) _
    refine XS.iand X0.here hx rfl (hb hby at_3) rfl ?_
    show Steps p.tables e below (s₁.setTop (mkF m 4 #[.val (.int p1), .unset, .unset, .unset] [(.int (p1 &&& (7 : Int32)))])) _
    rewrite [hi]
    show Steps p.tables e below (s₁.setTop (mkF m 4 #[.val (.int p1), .unset, .unset, .unset] [(.int (7 : Int32))])) _
    refine XS.istoreN X0.here hx rfl (hb hby at_4) rfl (l' := #[.val (.int p1), .val (.int (7 : Int32)), .unset, .unset]) rfl ?_
    show Steps p.tables e below (s₁.setTop (mkF m 5 #[.val (.int p1), .val (.int (7 : Int32)), .unset, .unset] [])) _
    refine XS.iloadN X0.here hx rfl (hb hby at_5) rfl ?_
    show Steps p.tables e below (s₁.setTop (mkF m 6 #[.val (.int p1), .val (.int (7 : Int32)), .unset, .unset] [(.int (7 : Int32))])) _
    refine XS.ifYes X0.here hx rfl (pc0 := 6) (pc' := 18) rfl (hb hby at_6) rfl (by decide) (by decide) (by decide) ?_
    show Steps p.tables e below (s₁.setTop (mkF m 18 #[.val (.int p1), .val (.int (7 : Int32)), .unset, .unset] [])) _
    refine XS.iloadN X0.here hx rfl (hb hby at_18) rfl ?_
    show Steps p.tables e below (s₁.setTop (mkF m 19 #[.val (.int p1), .val (.int (7 : Int32)), .unset, .unset] [(.int (7 : Int32))])) _
    refine XS.iconst X0.here hx rfl (hb hby at_19) ?_
    show Steps p.tables e below (s₁.setTop (mkF m 20 #[.val (.int p1), .val (.int (7 : Int32)), .unset, .unset] [(.int (1 : Int32)), (.int (7 : Int32))])) _
    refine XS.icmpYes X0.here hx rfl (pc0 := 20) (pc' := 32) rfl (hb hby at_20) rfl (by decide) (by decide) (by decide) ?_
    show Steps p.tables e below (s₁.setTop (mkF m 32 #[.val (.int p1), .val (.int (7 : Int32)), .unset, .unset] [])) _
    refine XS.iloadN X0.here hx rfl (hb hby at_32) rfl ?_
    show Steps p.tables e below (s₁.setTop (mkF m 33 #[.val (.int p1), .val (.int (7 : Int32)), .unset, .unset] [(.int (7 : Int32))])) _
    refine XS.iconst X0.here hx rfl (hb hby at_33) ?_
    show Steps p.tables e below (s₁.setTop (mkF m 34 #[.val (.int p1), .val (.int (7 : Int32)), .unset, .unset] [(.int (2 : Int32)), (.int (7 : Int32))])) _
    refine XS.icmpYes X0.here hx rfl (pc0 := 34) (pc' := 46) rfl (hb hby at_34) rfl (by decide) (by decide) (by decide) ?_
    show Steps p.tables e below (s₁.setTop (mkF m 46 #[.val (.int p1), .val (.int (7 : Int32)), .unset, .unset] [])) _
    refine XS.iloadN X0.here hx rfl (hb hby at_46) rfl ?_
    show Steps p.tables e below (s₁.setTop (mkF m 47 #[.val (.int p1), .val (.int (7 : Int32)), .unset, .unset] [(.int (7 : Int32))])) _
    refine XS.iconst X0.here hx rfl (hb hby at_47) ?_
    show Steps p.tables e below (s₁.setTop (mkF m 48 #[.val (.int p1), .val (.int (7 : Int32)), .unset, .unset] [(.int (3 : Int32)), (.int (7 : Int32))])) _
    refine XS.icmpYes X0.here hx rfl (pc0 := 48) (pc' := 60) rfl (hb hby at_48) rfl (by decide) (by decide) (by decide) ?_
    show Steps p.tables e below (s₁.setTop (mkF m 60 #[.val (.int p1), .val (.int (7 : Int32)), .unset, .unset] [])) _
    refine XS.iloadN X0.here hx rfl (hb hby at_60) rfl ?_
    show Steps p.tables e below (s₁.setTop (mkF m 61 #[.val (.int p1), .val (.int (7 : Int32)), .unset, .unset] [(.int (7 : Int32))])) _
    refine XS.iconst X0.here hx rfl (hb hby at_61) ?_
    show Steps p.tables e below (s₁.setTop (mkF m 62 #[.val (.int p1), .val (.int (7 : Int32)), .unset, .unset] [(.int (4 : Int32)), (.int (7 : Int32))])) _
    refine XS.icmpYes X0.here hx rfl (pc0 := 62) (pc' := 74) rfl (hb hby at_62) rfl (by decide) (by decide) (by decide) ?_
    show Steps p.tables e below (s₁.setTop (mkF m 74 #[.val (.int p1), .val (.int (7 : Int32)), .unset, .unset] [])) _
    refine XS.iloadN X0.here hx rfl (hb hby at_74) rfl ?_
    show Steps p.tables e below (s₁.setTop (mkF m 75 #[.val (.int p1), .val (.int (7 : Int32)), .unset, .unset] [(.int (7 : Int32))])) _
    refine XS.iconst X0.here hx rfl (hb hby at_75) ?_
    show Steps p.tables e below (s₁.setTop (mkF m 76 #[.val (.int p1), .val (.int (7 : Int32)), .unset, .unset] [(.int (5 : Int32)), (.int (7 : Int32))])) _
    refine XS.icmpYes X0.here hx rfl (pc0 := 76) (pc' := 88) rfl (hb hby at_76) rfl (by decide) (by decide) (by decide) ?_
    show Steps p.tables e below (s₁.setTop (mkF m 88 #[.val (.int p1), .val (.int (7 : Int32)), .unset, .unset] [])) _
    refine XS.iloadN X0.here hx rfl (hb hby at_88) rfl ?_
    show Steps p.tables e below (s₁.setTop (mkF m 89 #[.val (.int p1), .val (.int (7 : Int32)), .unset, .unset] [(.int (7 : Int32))])) _
    refine XS.bipush X0.here hx rfl (hb hby at_89) ?_
    show Steps p.tables e below (s₁.setTop (mkF m 91 #[.val (.int p1), .val (.int (7 : Int32)), .unset, .unset] [(.int (6 : Int32)), (.int (7 : Int32))])) _
    refine XS.icmpYes X0.here hx rfl (pc0 := 91) (pc' := 103) rfl (hb hby at_91) rfl (by decide) (by decide) (by decide) ?_
    show Steps p.tables e below (s₁.setTop (mkF m 103 #[.val (.int p1), .val (.int (7 : Int32)), .unset, .unset] [])) _
    refine st1 _ ?_
    show Steps p.tables e below (T1.setTop (mkF m 106 #[.val (.int p1), .val (.int (7 : Int32)), .unset, .unset] [(.ref a_ANNUALLY)])) _
    refine XS.astoreN X1.here hx rfl (hb hby at_106) rfl rfl (l' := #[.val (.int p1), .val (.int (7 : Int32)), .val (.ref a_ANNUALLY), .unset]) rfl ?_
    show Steps p.tables e below (T1.setTop (mkF m 107 #[.val (.int p1), .val (.int (7 : Int32)), .val (.ref a_ANNUALLY), .unset] [])) _
    refine XS.iconst X1.here hx rfl (hb hby at_107) ?_
    show Steps p.tables e below (T1.setTop (mkF m 108 #[.val (.int p1), .val (.int (7 : Int32)), .val (.ref a_ANNUALLY), .unset] [(.int (1 : Int32))])) _
    refine XS.istoreN X1.here hx rfl (hb hby at_108) rfl (l' := #[.val (.int p1), .val (.int (7 : Int32)), .val (.ref a_ANNUALLY), .val (.int (1 : Int32))]) rfl ?_
    show Steps p.tables e below (T1.setTop (mkF m 109 #[.val (.int p1), .val (.int (7 : Int32)), .val (.ref a_ANNUALLY), .val (.int (1 : Int32))] [])) _
    refine XS.aloadN X1.here hx rfl (hb hby at_109) rfl rfl ?_
    show Steps p.tables e below (T1.setTop (mkF m 110 #[.val (.int p1), .val (.int (7 : Int32)), .val (.ref a_ANNUALLY), .val (.int (1 : Int32))] [(.ref a_ANNUALLY)])) _
    refine st2.trans ?_
    show Steps p.tables e below (T2.setTop (mkF m 113 #[.val (.int p1), .val (.int (7 : Int32)), .val (.ref a_ANNUALLY), .val (.int (1 : Int32))] [(.int (1 : Int32))])) _
    refine XS.iloadN X2.here hx rfl (hb hby at_113) rfl ?_
    show Steps p.tables e below (T2.setTop (mkF m 114 #[.val (.int p1), .val (.int (7 : Int32)), .val (.ref a_ANNUALLY), .val (.int (1 : Int32))] [(.int (1 : Int32)), (.int (1 : Int32))])) _
    refine XS.icmpNo X2.here hx rfl (hb hby at_114) rfl (by decide) ?_
    show Steps p.tables e below (T2.setTop (mkF m 117 #[.val (.int p1), .val (.int (7 : Int32)), .val (.ref a_ANNUALLY), .val (.int (1 : Int32))] [])) _
    refine XS.iconst X2.here hx rfl (hb hby at_117) ?_
    show Steps p.tables e below (T2.setTop (mkF m 118 #[.val (.int p1), .val (.int (7 : Int32)), .val (.ref a_ANNUALLY), .val (.int (1 : Int32))] [(.int (1 : Int32))])) _
    refine XS.goto X2.here hx rfl (pc0 := 118) (pc' := 122) rfl (hb hby at_118) (by decide) (by decide) ?_
    show Steps p.tables e below (T2.setTop (mkF m 122 #[.val (.int p1), .val (.int (7 : Int32)), .val (.ref a_ANNUALLY), .val (.int (1 : Int32))] [(.int (1 : Int32))])) _
    exact retN X2 hx (t := .boolean) Bd.returns (by simp) (hb hby at_122) hr
  · show own_Q _ h0 n0 _ T2.heap _
    exact ⟨rfl, N2, e2⟩
theorem own_law (l : Launch) (Z : State) (a0 : Array Value) (hw : ∀ d ∈ tables_1, d.before a0 Z = true) (ws : List Jvm.Cond) (a_DAILY a_MONTHLY a_SEMIANNUALLY a_ANNUALLY a_BIWEEKLY a_WEEKLY a_BIMONTHLY a_QUARTERLY a_U a_M : Addr) (p1 : Int32) (h0 : Heap) (n0 : Nat) (hp : own_Pin Z h0 a_DAILY a_MONTHLY a_SEMIANNUALLY a_ANNUALLY a_BIWEEKLY a_WEEKLY a_BIMONTHLY a_QUARTERLY a_U a_M) :
    MetFree l x (head1 (Jvm.Cond.code x code maxLocals ret :: ws) room_1) (fun a U => a = #[(.int p1)] ∧ Z.Warmed39 U.vm ∧ U.heap = h0) (fun _ _ _ _ _ => True) (fun _ U o U' => ∃ v L, o = .returned v ∧ own_Q (.int (1 : Int32)) h0 n0 v U'.heap L ∧ FrameEnd U o U' L room_1.cells room_1.slots) := by
  have hm := c_and p1 (7 : Int32) (by decide)
  have h7 : (7 : Int32).toInt = 7 := by decide
  rcases own_few8 (p1 &&& (7 : Int32)) hm.1 (by omega) with hi | hi | hi | hi | hi | hi | hi | hi
  · exact own_law_0 l Z a0 hw ws a_DAILY a_MONTHLY a_SEMIANNUALLY a_ANNUALLY a_BIWEEKLY a_WEEKLY a_BIMONTHLY a_QUARTERLY a_U a_M p1 h0 n0 hp hi
  · exact own_law_1 l Z a0 hw ws a_DAILY a_MONTHLY a_SEMIANNUALLY a_ANNUALLY a_BIWEEKLY a_WEEKLY a_BIMONTHLY a_QUARTERLY a_U a_M p1 h0 n0 hp hi
  · exact own_law_2 l Z a0 hw ws a_DAILY a_MONTHLY a_SEMIANNUALLY a_ANNUALLY a_BIWEEKLY a_WEEKLY a_BIMONTHLY a_QUARTERLY a_U a_M p1 h0 n0 hp hi
  · exact own_law_3 l Z a0 hw ws a_DAILY a_MONTHLY a_SEMIANNUALLY a_ANNUALLY a_BIWEEKLY a_WEEKLY a_BIMONTHLY a_QUARTERLY a_U a_M p1 h0 n0 hp hi
  · exact own_law_4 l Z a0 hw ws a_DAILY a_MONTHLY a_SEMIANNUALLY a_ANNUALLY a_BIWEEKLY a_WEEKLY a_BIMONTHLY a_QUARTERLY a_U a_M p1 h0 n0 hp hi
  · exact own_law_5 l Z a0 hw ws a_DAILY a_MONTHLY a_SEMIANNUALLY a_ANNUALLY a_BIWEEKLY a_WEEKLY a_BIMONTHLY a_QUARTERLY a_U a_M p1 h0 n0 hp hi
  · exact own_law_6 l Z a0 hw ws a_DAILY a_MONTHLY a_SEMIANNUALLY a_ANNUALLY a_BIWEEKLY a_WEEKLY a_BIMONTHLY a_QUARTERLY a_U a_M p1 h0 n0 hp hi
  · exact own_law_7 l Z a0 hw ws a_DAILY a_MONTHLY a_SEMIANNUALLY a_ANNUALLY a_BIWEEKLY a_WEEKLY a_BIMONTHLY a_QUARTERLY a_U a_M p1 h0 n0 hp hi
set_option maxRecDepth 65536 in
set_option maxHeartbeats 40000000 in
theorem comes_1 {Post : Tables → Env → Array Value → State → Outcome → State → Prop} (hpost : ∀ tb e args s v u, (limb_1_1.after args s (.returned v) u = true ∧ limb_1_2.after args s (.returned v) u = true ∧ True) → FrameEnd s (.returned v) u (Jvm.fieldLocs frame_1_writes args s ++ Jvm.arrayLocs frame_1_arrays args s ++ Jvm.staticLocs frame_1_statics s) 0 0 → Post tb e args s (.returned v) u) :
    ArmFor flags0 classFile x code maxLocals ret World_1 tables_1 room_1 Calls_1 rest_1 Pre_1 Post := by
  intro l hfl _ _ p e ha hc hk s m args below hf hA hF happ hP
  obtain ⟨hcalls, hrest, hpre⟩ := hP
  obtain ⟨-, -, -, hnamed, -, -, -, hat⟩ := (Spec.applies_iff hf).mp happ
  obtain ⟨hg, hn⟩ := and_e (Cond.before_iff.mp (show (Jvm.Cond.and given_1 narrow_1).before args s = true from hpre))
  obtain ⟨g0, g1⟩ := and_e hg
  obtain ⟨w0, rfl⟩ : ∃ w0 : Value, args = #[w0] := by
    have hs : args.size = 1 := by simpa [Cond.value, given_1] using g0
    obtain ⟨L⟩ := args
    match L, hs with
    | [w0], _ => exact ⟨w0, rfl⟩
  have hw := fun d (hd : d ∈ tables_1) => atoms_spec (ws := Jvm.Cond.code x code maxLocals ret :: tables_1) hat d (List.mem_cons_of_mem _ hd)
  obtain ⟨i0, ei0⟩ := is_v g1
  obtain rfl : w0 = (.int i0) := Option.some.inj ei0
  obtain ⟨c0, r0⟩ := and_e hn
  obtain ⟨c1, r1⟩ := and_e r0
  obtain ⟨c2, r2⟩ := and_e r1
  obtain ⟨c3, r3⟩ := and_e r2
  obtain ⟨c4, r4⟩ := and_e r3
  obtain ⟨c5, r5⟩ := and_e r4
  obtain ⟨c6, r6⟩ := and_e r5
  obtain ⟨c7, r7⟩ := and_e r6
  obtain ⟨c8, r8⟩ := and_e r7
  obtain ⟨c9, r9⟩ := and_e r8
  obtain ⟨c10, r10⟩ := and_e r9
  obtain ⟨c11, r11⟩ := and_e r10
  obtain ⟨c12, r12⟩ := and_e r11
  obtain ⟨c13, r13⟩ := and_e r12
  obtain ⟨c14, r14⟩ := and_e r13
  obtain ⟨c15, r15⟩ := and_e r14
  have c16 := r15
  obtain ⟨a_DAILY, ev_DAILY⟩ := exa_v c0
  have E_DAILY : Exa s s.heap a_DAILY "com/example/ledgerwheel/ledgerwheel/Frequency" := Exa.start ev_DAILY c0
  have S_DAILY : Sta s s.heap "com/example/ledgerwheel/ledgerwheel/Frequency" "DAILY" "Lcom/example/ledgerwheel/ledgerwheel/Frequency;" (.ref a_DAILY) := Sta.start ev_DAILY (Or.inr ⟨(hw _ (List.mem_of_getElem? (i := 1) rfl)), (hw _ (List.mem_of_getElem? (i := 2) rfl))⟩)
  obtain ⟨a_MONTHLY, ev_MONTHLY⟩ := exa_v c3
  have E_MONTHLY : Exa s s.heap a_MONTHLY "com/example/ledgerwheel/ledgerwheel/Frequency" := Exa.start ev_MONTHLY c3
  have S_MONTHLY : Sta s s.heap "com/example/ledgerwheel/ledgerwheel/Frequency" "MONTHLY" "Lcom/example/ledgerwheel/ledgerwheel/Frequency;" (.ref a_MONTHLY) := Sta.start ev_MONTHLY (Or.inr ⟨(hw _ (List.mem_of_getElem? (i := 1) rfl)), (hw _ (List.mem_of_getElem? (i := 13) rfl))⟩)
  obtain ⟨a_SEMIANNUALLY, ev_SEMIANNUALLY⟩ := exa_v c5
  have E_SEMIANNUALLY : Exa s s.heap a_SEMIANNUALLY "com/example/ledgerwheel/ledgerwheel/Frequency" := Exa.start ev_SEMIANNUALLY c5
  have S_SEMIANNUALLY : Sta s s.heap "com/example/ledgerwheel/ledgerwheel/Frequency" "SEMIANNUALLY" "Lcom/example/ledgerwheel/ledgerwheel/Frequency;" (.ref a_SEMIANNUALLY) := Sta.start ev_SEMIANNUALLY (Or.inr ⟨(hw _ (List.mem_of_getElem? (i := 1) rfl)), (hw _ (List.mem_of_getElem? (i := 15) rfl))⟩)
  obtain ⟨a_ANNUALLY, ev_ANNUALLY⟩ := exa_v c7
  have E_ANNUALLY : Exa s s.heap a_ANNUALLY "com/example/ledgerwheel/ledgerwheel/Frequency" := Exa.start ev_ANNUALLY c7
  have S_ANNUALLY : Sta s s.heap "com/example/ledgerwheel/ledgerwheel/Frequency" "ANNUALLY" "Lcom/example/ledgerwheel/ledgerwheel/Frequency;" (.ref a_ANNUALLY) := Sta.start ev_ANNUALLY (Or.inr ⟨(hw _ (List.mem_of_getElem? (i := 1) rfl)), (hw _ (List.mem_of_getElem? (i := 17) rfl))⟩)
  obtain ⟨a_BIWEEKLY, ev_BIWEEKLY⟩ := exa_v c9
  have E_BIWEEKLY : Exa s s.heap a_BIWEEKLY "com/example/ledgerwheel/ledgerwheel/Frequency" := Exa.start ev_BIWEEKLY c9
  have S_BIWEEKLY : Sta s s.heap "com/example/ledgerwheel/ledgerwheel/Frequency" "BIWEEKLY" "Lcom/example/ledgerwheel/ledgerwheel/Frequency;" (.ref a_BIWEEKLY) := Sta.start ev_BIWEEKLY (Or.inr ⟨(hw _ (List.mem_of_getElem? (i := 1) rfl)), (hw _ (List.mem_of_getElem? (i := 19) rfl))⟩)
  obtain ⟨a_WEEKLY, ev_WEEKLY⟩ := exa_v c11
  have E_WEEKLY : Exa s s.heap a_WEEKLY "com/example/ledgerwheel/ledgerwheel/Frequency" := Exa.start ev_WEEKLY c11
  have S_WEEKLY : Sta s s.heap "com/example/ledgerwheel/ledgerwheel/Frequency" "WEEKLY" "Lcom/example/ledgerwheel/ledgerwheel/Frequency;" (.ref a_WEEKLY) := Sta.start ev_WEEKLY (Or.inr ⟨(hw _ (List.mem_of_getElem? (i := 1) rfl)), (hw _ (List.mem_of_getElem? (i := 21) rfl))⟩)
  obtain ⟨a_BIMONTHLY, ev_BIMONTHLY⟩ := exa_v c13
  have E_BIMONTHLY : Exa s s.heap a_BIMONTHLY "com/example/ledgerwheel/ledgerwheel/Frequency" := Exa.start ev_BIMONTHLY c13
  have S_BIMONTHLY : Sta s s.heap "com/example/ledgerwheel/ledgerwheel/Frequency" "BIMONTHLY" "Lcom/example/ledgerwheel/ledgerwheel/Frequency;" (.ref a_BIMONTHLY) := Sta.start ev_BIMONTHLY (Or.inr ⟨(hw _ (List.mem_of_getElem? (i := 1) rfl)), (hw _ (List.mem_of_getElem? (i := 23) rfl))⟩)
  obtain ⟨a_QUARTERLY, ev_QUARTERLY⟩ := exa_v c15
  have E_QUARTERLY : Exa s s.heap a_QUARTERLY "com/example/ledgerwheel/ledgerwheel/Frequency" := Exa.start ev_QUARTERLY c15
  have S_QUARTERLY : Sta s s.heap "com/example/ledgerwheel/ledgerwheel/Frequency" "QUARTERLY" "Lcom/example/ledgerwheel/ledgerwheel/Frequency;" (.ref a_QUARTERLY) := Sta.start ev_QUARTERLY (Or.inr ⟨(hw _ (List.mem_of_getElem? (i := 1) rfl)), (hw _ (List.mem_of_getElem? (i := 25) rfl))⟩)
  have hR : rest_1_c.value #[(.int i0)] s none s [] = some true := Cond.before_iff.mp (show rest_1_c.before #[(.int i0)] s = true from hrest)
  obtain ⟨-, t1⟩ := and_e hR
  obtain ⟨t2, t3⟩ := and_e t1
  obtain ⟨t4, -⟩ := and_e t3
  obtain ⟨a_M, ev_M⟩ := exa_v t4
  have S_M : Sta s s.heap "java/time/temporal/ChronoUnit" "MONTHS" "Ljava/time/temporal/ChronoUnit;" (.ref a_M) := Sta.start ev_M (Or.inl (Cond.before_iff.mpr t2))
  obtain ⟨a_U, ev_U⟩ := exa_v c1
  have O_DAILY : s.fieldOf? a_DAILY "com/example/ledgerwheel/ledgerwheel/Frequency" "unit" "Ljava/time/temporal/ChronoUnit;" = some (.ref a_U) := (fld_at ev_DAILY).symm.trans ev_U
  have n_U_M : ¬ (a_U = a_M) := fun q => gotF (eq_R ev_U ev_M rfl rfl) (not_v c2) (congrArg Value.ref q)
  have O_MONTHLY : s.fieldOf? a_MONTHLY "com/example/ledgerwheel/ledgerwheel/Frequency" "unit" "Ljava/time/temporal/ChronoUnit;" = some (.ref a_M) := (fld_at ev_MONTHLY).symm.trans (own_eqR ev_M c4)
  have O_SEMIANNUALLY : s.fieldOf? a_SEMIANNUALLY "com/example/ledgerwheel/ledgerwheel/Frequency" "unit" "Ljava/time/temporal/ChronoUnit;" = some (.ref a_M) := (fld_at ev_SEMIANNUALLY).symm.trans (own_eqR ev_M c6)
  have O_ANNUALLY : s.fieldOf? a_ANNUALLY "com/example/ledgerwheel/ledgerwheel/Frequency" "unit" "Ljava/time/temporal/ChronoUnit;" = some (.ref a_M) := (fld_at ev_ANNUALLY).symm.trans (own_eqR ev_M c8)
  have O_BIWEEKLY : s.fieldOf? a_BIWEEKLY "com/example/ledgerwheel/ledgerwheel/Frequency" "unit" "Ljava/time/temporal/ChronoUnit;" = some (.ref a_U) := (fld_at ev_BIWEEKLY).symm.trans (own_eqR ev_U c10)
  have O_WEEKLY : s.fieldOf? a_WEEKLY "com/example/ledgerwheel/ledgerwheel/Frequency" "unit" "Ljava/time/temporal/ChronoUnit;" = some (.ref a_U) := (fld_at ev_WEEKLY).symm.trans (own_eqR ev_U c12)
  have O_BIMONTHLY : s.fieldOf? a_BIMONTHLY "com/example/ledgerwheel/ledgerwheel/Frequency" "unit" "Ljava/time/temporal/ChronoUnit;" = some (.ref a_M) := (fld_at ev_BIMONTHLY).symm.trans (own_eqR ev_M c14)
  have O_QUARTERLY : s.fieldOf? a_QUARTERLY "com/example/ledgerwheel/ledgerwheel/Frequency" "unit" "Ljava/time/temporal/ChronoUnit;" = some (.ref a_M) := (fld_at ev_QUARTERLY).symm.trans (own_eqR ev_M c16)
  have F_DAILY : Fld s s.heap a_DAILY "com/example/ledgerwheel/ledgerwheel/Frequency" "unit" "Ljava/time/temporal/ChronoUnit;" (.ref a_U) := Fld.start O_DAILY
  have F_MONTHLY : Fld s s.heap a_MONTHLY "com/example/ledgerwheel/ledgerwheel/Frequency" "unit" "Ljava/time/temporal/ChronoUnit;" (.ref a_M) := Fld.start O_MONTHLY
  have F_SEMIANNUALLY : Fld s s.heap a_SEMIANNUALLY "com/example/ledgerwheel/ledgerwheel/Frequency" "unit" "Ljava/time/temporal/ChronoUnit;" (.ref a_M) := Fld.start O_SEMIANNUALLY
  have F_ANNUALLY : Fld s s.heap a_ANNUALLY "com/example/ledgerwheel/ledgerwheel/Frequency" "unit" "Ljava/time/temporal/ChronoUnit;" (.ref a_M) := Fld.start O_ANNUALLY
  have F_BIWEEKLY : Fld s s.heap a_BIWEEKLY "com/example/ledgerwheel/ledgerwheel/Frequency" "unit" "Ljava/time/temporal/ChronoUnit;" (.ref a_U) := Fld.start O_BIWEEKLY
  have F_WEEKLY : Fld s s.heap a_WEEKLY "com/example/ledgerwheel/ledgerwheel/Frequency" "unit" "Ljava/time/temporal/ChronoUnit;" (.ref a_U) := Fld.start O_WEEKLY
  have F_BIMONTHLY : Fld s s.heap a_BIMONTHLY "com/example/ledgerwheel/ledgerwheel/Frequency" "unit" "Ljava/time/temporal/ChronoUnit;" (.ref a_M) := Fld.start O_BIMONTHLY
  have F_QUARTERLY : Fld s s.heap a_QUARTERLY "com/example/ledgerwheel/ledgerwheel/Frequency" "unit" "Ljava/time/temporal/ChronoUnit;" (.ref a_M) := Fld.start O_QUARTERLY
  obtain ⟨n, o, h1, h2, h3, _, L, rfl, ⟨rfl, N, -⟩, hq⟩ := own_law l s _ hw tables_1 a_DAILY a_MONTHLY a_SEMIANNUALLY a_ANNUALLY a_BIWEEKLY a_WEEKLY a_BIMONTHLY a_QUARTERLY a_U a_M i0 s.heap s.heap.size ⟨S_DAILY, S_MONTHLY, S_SEMIANNUALLY, S_ANNUALLY, S_BIWEEKLY, S_WEEKLY, S_BIMONTHLY, S_QUARTERLY, E_DAILY, E_MONTHLY, E_SEMIANNUALLY, E_ANNUALLY, E_BIWEEKLY, E_WEEKLY, E_BIMONTHLY, E_QUARTERLY, F_DAILY, F_MONTHLY, F_SEMIANNUALLY, F_ANNUALLY, F_BIWEEKLY, F_WEEKLY, F_BIMONTHLY, F_QUARTERLY, S_M, n_U_M⟩ p e ha hc hk s m _ below hf ((Spec.applies_iff_loose hf).mp happ).1 ⟨rfl, State.Warmed39.refl s, rfl⟩ trivial
  refine ⟨n, _, h1, h2, h3, hpost _ _ _ _ _ _ ⟨Cond.after_iff.mpr rfl, Cond.after_iff.mpr (eq_i res_at (Term.int_eval (1)) rfl), trivial⟩ ⟨hq.1, hq.2.1, (hq.2.2.sift fun y hy => Or.inr (N y hy)).mono (by decide) (by decide)⟩⟩
theorem main_1_1 : Claimed_1_1 := comes_1 fun _ _ _ _ _ _ h hF => ⟨h.1, hF⟩
theorem main_1_2 : Claimed_1_2 := comes_1 fun _ _ _ _ _ _ h hF => ⟨h.2.1, hF⟩
end Jvm.Pilot.@@N@@
namespace Jvm.Pilot.@@N@@
open Jvm Jvm.ClassFile Sem Op Lib Jvm.Free Jvm.Stand Jvm.Pilot.@@N@@.Jvm.D
/-! MADE BY PROGRAM (witnessworld.py) out of the Statement's table words and the real class files: 17 classes; the members and pool entries that the words name. The judged class is class 1, her method 1. -/
namespace start1
open Jvm.ClassFile
def u (s : String) : CpInfo := .utf8 (stringToUtf16 s)
/-- a pool by its gaps: so many unusable entries, then the entry; so many at the end -/
def gap : Nat → List CpInfo → List CpInfo
  | 0, r => r
  | n + 1, r => .unusable :: gap n r
def poolList (es : List (Nat × CpInfo)) (last : Nat) : List CpInfo := es.foldr (fun e r => gap e.1 (e.2 :: r)) (gap last [])
def pool (es : List (Nat × CpInfo)) (last : Nat) : Array CpInfo := ⟨poolList es last⟩
def fileOf (pool : Array CpInfo) (this : Nat) (attrs : Array Attribute := #[]) (ms : Array MethodInfo := #[]) (fl : Nat := 33) (sup : Nat := 0) (ifs : Array Nat := #[]) (fds : Array FieldInfo := #[]) : ClassFile where
  minorVersion := 0
  majorVersion := 65
  constantPool := pool
  accessFlags := fl
  thisClass := this
  superClass := sup
  interfaces := ifs
  fields := fds
  methods := ms
  attributes := attrs
def plain (name : String) (sup : Option ClassId) : Class where
  name := name
  kind := .ordinary
  loader := none
  accessFlags := 33
  super := sup
  interfaces := #[]
  cf := none
  fields := #[]
  methods := #[]
  instanceTypes := #[]
  staticTypes := #[]
  resolved := #[]
  callSites := []
  init := .initialized
  statics := none
  mirror := none

def pool0 : Array CpInfo := pool [(5, u "<init>"), (0, u "()V"), (1, .class_ 10), (1, u "java/lang/Object")] 113

def k0m0 : Method := { name := "<init>", desc := "()V", sig := { parameters := [], returnType := none }, accessFlags := 1, code := none }
/-- java/lang/Object -/
def k0 : Class := { plain "java/lang/Object" none with
  accessFlags := 33
  interfaces := #[]
  cf := some (fileOf pool0 8 #[] #[{ accessFlags := 1, nameIndex := 5, descriptorIndex := 6, attributes := #[] }] 33 0 #[] #[])
  fields := #[]
  methods := #[k0m0]
  instanceTypes := #[]
  staticTypes := #[]
  resolved := Array.replicate 124 none
  statics := none }

def pool1 : Array CpInfo := pool [(2, .class_ 4), (1, u "java/lang/Object"), (0, u "<init>"), (0, u "()V"), (0, .fieldref 8 9), (0, .class_ 10), (0, .nameAndType 11 12), (0, u "com/example/ledgerwheel/ledgerwheel/Frequency"), (0, u "DAILY"), (0, u "Lcom/example/ledgerwheel/ledgerwheel/Frequency;"), (0, .fieldref 8 14), (0, .nameAndType 15 12), (0, u "WEEKLY"), (0, .fieldref 8 17), (0, .nameAndType 18 12), (0, u "BIWEEKLY"), (0, .fieldref 8 20), (0, .nameAndType 21 12), (0, u "MONTHLY"), (0, .fieldref 8 23), (0, .nameAndType 24 12), (0, u "BIMONTHLY"), (0, .fieldref 8 26), (0, .nameAndType 27 12), (0, u "QUARTERLY"), (0, .fieldref 8 29), (0, .nameAndType 30 12), (0, u "SEMIANNUALLY"), (0, .fieldref 8 32), (0, .nameAndType 33 12), (0, u "ANNUALLY"), (0, .methodref 8 35), (0, .nameAndType 36 37), (0, u "keepsAnAnchorDay"), (0, u "()Z"), (0, .class_ 39), (0, u "com/example/ledgerwheel/ledgerwheel/FrequencyKeepsAnAnchorDayPinLaw"), (2, u "law"), (0, u "(I)Z")] 3

def k1m0 : Method := { name := "<init>", desc := "()V", sig := { parameters := [], returnType := none }, accessFlags := 2, code := none }
def k1c1 : Code := { maxStack := 2, maxLocals := 4, code := code, exceptionTable := #[], attributes := #[] }
def k1m1 : Method := { name := "law", desc := "(I)Z", sig := { parameters := [.int], returnType := some .boolean }, accessFlags := 9, code := some k1c1 }
/-- com/example/ledgerwheel/ledgerwheel/FrequencyKeepsAnAnchorDayPinLaw -/
def k1 : Class := { plain "com/example/ledgerwheel/ledgerwheel/FrequencyKeepsAnAnchorDayPinLaw" (some 0) with
  accessFlags := 49
  interfaces := #[]
  cf := some (fileOf pool1 38 #[] #[{ accessFlags := 2, nameIndex := 5, descriptorIndex := 6, attributes := #[] }, { accessFlags := 9, nameIndex := 42, descriptorIndex := 43, attributes := #[] }] 49 2 #[] #[])
  fields := #[]
  methods := #[k1m0, k1m1]
  instanceTypes := #[]
  staticTypes := #[]
  resolved := Array.replicate 47 none
  statics := none }

def pool2 : Array CpInfo := pool [(1, .class_ 2), (0, u "java/lang/constant/Constable"), (0, .class_ 4), (0, u "java/lang/Object")] 6

/-- java/lang/constant/Constable -/
def k2 : Class := { plain "java/lang/constant/Constable" (some 0) with
  accessFlags := 1537
  interfaces := #[]
  cf := some (fileOf pool2 1 #[] #[] 1537 3 #[] #[])
  fields := #[]
  methods := #[]
  instanceTypes := #[]
  staticTypes := #[]
  resolved := Array.replicate 11 none
  statics := none }

def pool3 : Array CpInfo := pool [(1, .class_ 2), (0, u "java/lang/Comparable"), (0, .class_ 4), (0, u "java/lang/Object")] 7

/-- java/lang/Comparable -/
def k3 : Class := { plain "java/lang/Comparable" (some 0) with
  accessFlags := 1537
  interfaces := #[]
  cf := some (fileOf pool3 1 #[] #[] 1537 3 #[] #[])
  fields := #[]
  methods := #[]
  instanceTypes := #[]
  staticTypes := #[]
  resolved := Array.replicate 12 none
  statics := none }

def pool4 : Array CpInfo := pool [(1, .class_ 2), (0, u "java/io/Serializable"), (0, .class_ 4), (0, u "java/lang/Object")] 2

/-- java/io/Serializable -/
def k4 : Class := { plain "java/io/Serializable" (some 0) with
  accessFlags := 1537
  interfaces := #[]
  cf := some (fileOf pool4 1 #[] #[] 1537 3 #[] #[])
  fields := #[]
  methods := #[]
  instanceTypes := #[]
  staticTypes := #[]
  resolved := Array.replicate 7 none
  statics := none }

def pool5 : Array CpInfo := pool [(2, .class_ 4), (1, u "java/lang/Enum"), (0, u "name"), (0, u "Ljava/lang/String;"), (2, u "ordinal"), (0, u "I"), (1, .class_ 14), (1, u "java/lang/Object"), (4, u "hash"), (86, .class_ 108), (1, u "java/lang/Enum$EnumDesc"), (2, .class_ 112), (0, u "java/lang/constant/Constable"), (0, .class_ 114), (0, u "java/lang/Comparable"), (0, .class_ 116), (0, u "java/io/Serializable")] 87

/-- java/lang/Enum -/
def k5 : Class := { plain "java/lang/Enum" (some 0) with
  accessFlags := 1057
  interfaces := #[2, 3, 4]
  cf := some (fileOf pool5 2 #[.nestMembers #[106]] #[] 1057 12 #[111, 113, 115] #[{ accessFlags := 18, nameIndex := 5, descriptorIndex := 6, attributes := #[] }, { accessFlags := 18, nameIndex := 9, descriptorIndex := 10, attributes := #[] }, { accessFlags := 2, nameIndex := 19, descriptorIndex := 10, attributes := #[] }])
  fields := #[{ name := "name", type := (.object "java/lang/String"), accessFlags := 18, slot := 0, constantValue := 0 }, { name := "ordinal", type := .int, accessFlags := 18, slot := 1, constantValue := 0 }, { name := "hash", type := .int, accessFlags := 2, slot := 2, constantValue := 0 }]
  methods := #[]
  instanceTypes := #[(.object "java/lang/String"), .int, .int]
  staticTypes := #[]
  resolved := Array.replicate 204 none
  statics := none }

def pool6 : Array CpInfo := pool [(1, .class_ 2), (0, u "com/example/ledgerwheel/ledgerwheel/Frequency"), (2, u "DAILY"), (0, u "Lcom/example/ledgerwheel/ledgerwheel/Frequency;"), (2, u "WEEKLY"), (2, u "BIWEEKLY"), (2, u "MONTHLY"), (2, u "BIMONTHLY"), (2, u "QUARTERLY"), (2, u "SEMIANNUALLY"), (2, u "ANNUALLY"), (2, u "$VALUES"), (0, u "[Lcom/example/ledgerwheel/ledgerwheel/Frequency;"), (6, .class_ 40), (1, u "java/lang/Enum"), (8, u "name"), (0, u "Ljava/lang/String;"), (2, u "step"), (0, u "I"), (0, .fieldref 1 56), (0, .nameAndType 57 58), (0, u "unit"), (0, u "Ljava/time/temporal/ChronoUnit;"), (12, .fieldref 72 73), (0, .class_ 74), (0, .nameAndType 75 58), (0, u "java/time/temporal/ChronoUnit"), (0, u "MONTHS"), (94, u "keepsAnAnchorDay"), (0, u "()Z")] 11

def k6c0 : Code := { maxStack := 2, maxLocals := 1, code := prog_28_method_5_code, exceptionTable := #[], attributes := #[] }
def k6m0 : Method := { name := "keepsAnAnchorDay", desc := "()Z", sig := { parameters := [], returnType := some .boolean }, accessFlags := 0, code := some k6c0 }
/-- com/example/ledgerwheel/ledgerwheel/Frequency -/
def k6 : Class := { plain "com/example/ledgerwheel/ledgerwheel/Frequency" (some 5) with
  accessFlags := 16432
  interfaces := #[]
  cf := some (fileOf pool6 1 #[] #[{ accessFlags := 0, nameIndex := 170, descriptorIndex := 171, attributes := #[] }] 16432 38 #[] #[{ accessFlags := 16409, nameIndex := 5, descriptorIndex := 6, attributes := #[] }, { accessFlags := 16409, nameIndex := 9, descriptorIndex := 6, attributes := #[] }, { accessFlags := 16409, nameIndex := 12, descriptorIndex := 6, attributes := #[] }, { accessFlags := 16409, nameIndex := 15, descriptorIndex := 6, attributes := #[] }, { accessFlags := 16409, nameIndex := 18, descriptorIndex := 6, attributes := #[] }, { accessFlags := 16409, nameIndex := 21, descriptorIndex := 6, attributes := #[] }, { accessFlags := 16409, nameIndex := 24, descriptorIndex := 6, attributes := #[] }, { accessFlags := 16409, nameIndex := 27, descriptorIndex := 6, attributes := #[] }, { accessFlags := 18, nameIndex := 49, descriptorIndex := 50, attributes := #[] }, { accessFlags := 18, nameIndex := 53, descriptorIndex := 54, attributes := #[] }, { accessFlags := 18, nameIndex := 57, descriptorIndex := 58, attributes := #[] }, { accessFlags := 4122, nameIndex := 30, descriptorIndex := 31, attributes := #[] }])
  fields := #[{ name := "DAILY", type := (.object "com/example/ledgerwheel/ledgerwheel/Frequency"), accessFlags := 16409, slot := 0, constantValue := 0 }, { name := "WEEKLY", type := (.object "com/example/ledgerwheel/ledgerwheel/Frequency"), accessFlags := 16409, slot := 1, constantValue := 0 }, { name := "BIWEEKLY", type := (.object "com/example/ledgerwheel/ledgerwheel/Frequency"), accessFlags := 16409, slot := 2, constantValue := 0 }, { name := "MONTHLY", type := (.object "com/example/ledgerwheel/ledgerwheel/Frequency"), accessFlags := 16409, slot := 3, constantValue := 0 }, { name := "BIMONTHLY", type := (.object "com/example/ledgerwheel/ledgerwheel/Frequency"), accessFlags := 16409, slot := 4, constantValue := 0 }, { name := "QUARTERLY", type := (.object "com/example/ledgerwheel/ledgerwheel/Frequency"), accessFlags := 16409, slot := 5, constantValue := 0 }, { name := "SEMIANNUALLY", type := (.object "com/example/ledgerwheel/ledgerwheel/Frequency"), accessFlags := 16409, slot := 6, constantValue := 0 }, { name := "ANNUALLY", type := (.object "com/example/ledgerwheel/ledgerwheel/Frequency"), accessFlags := 16409, slot := 7, constantValue := 0 }, { name := "name", type := (.object "java/lang/String"), accessFlags := 18, slot := 3, constantValue := 0 }, { name := "step", type := .int, accessFlags := 18, slot := 4, constantValue := 0 }, { name := "unit", type := (.object "java/time/temporal/ChronoUnit"), accessFlags := 18, slot := 5, constantValue := 0 }, { name := "$VALUES", type := (.array (.object "com/example/ledgerwheel/ledgerwheel/Frequency")), accessFlags := 4122, slot := 8, constantValue := 0 }]
  methods := #[k6m0]
  instanceTypes := #[(.object "java/lang/String"), .int, .int, (.object "java/lang/String"), .int, (.object "java/time/temporal/ChronoUnit")]
  staticTypes := #[(.object "com/example/ledgerwheel/ledgerwheel/Frequency"), (.object "com/example/ledgerwheel/ledgerwheel/Frequency"), (.object "com/example/ledgerwheel/ledgerwheel/Frequency"), (.object "com/example/ledgerwheel/ledgerwheel/Frequency"), (.object "com/example/ledgerwheel/ledgerwheel/Frequency"), (.object "com/example/ledgerwheel/ledgerwheel/Frequency"), (.object "com/example/ledgerwheel/ledgerwheel/Frequency"), (.object "com/example/ledgerwheel/ledgerwheel/Frequency"), (.array (.object "com/example/ledgerwheel/ledgerwheel/Frequency"))]
  resolved := Array.replicate 183 none
  statics := some 0 }

def pool7 : Array CpInfo := pool [(4, .class_ 6), (1, u "java/time/temporal/TemporalUnit"), (23, .class_ 31), (0, u "java/lang/Object")] 27

/-- java/time/temporal/TemporalUnit -/
def k7 : Class := { plain "java/time/temporal/TemporalUnit" (some 0) with
  accessFlags := 1537
  interfaces := #[]
  cf := some (fileOf pool7 4 #[] #[] 1537 30 #[] #[])
  fields := #[]
  methods := #[]
  instanceTypes := #[]
  staticTypes := #[]
  resolved := Array.replicate 59 none
  statics := none }

def pool8 : Array CpInfo := pool [(1, .class_ 2), (0, u "java/time/temporal/ChronoUnit"), (2, u "NANOS"), (0, u "Ljava/time/temporal/ChronoUnit;"), (2, u "MICROS"), (2, u "MILLIS"), (2, u "SECONDS"), (2, u "MINUTES"), (2, u "HOURS"), (2, u "HALF_DAYS"), (2, u "DAYS"), (2, u "WEEKS"), (2, u "MONTHS"), (2, u "YEARS"), (2, u "DECADES"), (2, u "CENTURIES"), (2, u "MILLENNIA"), (2, u "ERAS"), (2, u "FOREVER"), (2, u "$VALUES"), (0, u "[Ljava/time/temporal/ChronoUnit;"), (6, .class_ 64), (1, u "java/lang/Enum"), (8, u "name"), (0, u "Ljava/lang/String;"), (2, u "duration"), (0, u "Ljava/time/Duration;"), (117, .class_ 197), (0, u "java/time/temporal/TemporalUnit")] 39

/-- java/time/temporal/ChronoUnit -/
def k8 : Class := { plain "java/time/temporal/ChronoUnit" (some 5) with
  accessFlags := 16433
  interfaces := #[7]
  cf := some (fileOf pool8 1 #[] #[] 16433 62 #[196] #[{ accessFlags := 16409, nameIndex := 5, descriptorIndex := 6, attributes := #[] }, { accessFlags := 16409, nameIndex := 9, descriptorIndex := 6, attributes := #[] }, { accessFlags := 16409, nameIndex := 12, descriptorIndex := 6, attributes := #[] }, { accessFlags := 16409, nameIndex := 15, descriptorIndex := 6, attributes := #[] }, { accessFlags := 16409, nameIndex := 18, descriptorIndex := 6, attributes := #[] }, { accessFlags := 16409, nameIndex := 21, descriptorIndex := 6, attributes := #[] }, { accessFlags := 16409, nameIndex := 24, descriptorIndex := 6, attributes := #[] }, { accessFlags := 16409, nameIndex := 27, descriptorIndex := 6, attributes := #[] }, { accessFlags := 16409, nameIndex := 30, descriptorIndex := 6, attributes := #[] }, { accessFlags := 16409, nameIndex := 33, descriptorIndex := 6, attributes := #[] }, { accessFlags := 16409, nameIndex := 36, descriptorIndex := 6, attributes := #[] }, { accessFlags := 16409, nameIndex := 39, descriptorIndex := 6, attributes := #[] }, { accessFlags := 16409, nameIndex := 42, descriptorIndex := 6, attributes := #[] }, { accessFlags := 16409, nameIndex := 45, descriptorIndex := 6, attributes := #[] }, { accessFlags := 16409, nameIndex := 48, descriptorIndex := 6, attributes := #[] }, { accessFlags := 16409, nameIndex := 51, descriptorIndex := 6, attributes := #[] }, { accessFlags := 18, nameIndex := 73, descriptorIndex := 74, attributes := #[] }, { accessFlags := 18, nameIndex := 77, descriptorIndex := 78, attributes := #[] }, { accessFlags := 4122, nameIndex := 54, descriptorIndex := 55, attributes := #[] }])
  fields := #[{ name := "NANOS", type := (.object "java/time/temporal/ChronoUnit"), accessFlags := 16409, slot := 0, constantValue := 0 }, { name := "MICROS", type := (.object "java/time/temporal/ChronoUnit"), accessFlags := 16409, slot := 1, constantValue := 0 }, { name := "MILLIS", type := (.object "java/time/temporal/ChronoUnit"), accessFlags := 16409, slot := 2, constantValue := 0 }, { name := "SECONDS", type := (.object "java/time/temporal/ChronoUnit"), accessFlags := 16409, slot := 3, constantValue := 0 }, { name := "MINUTES", type := (.object "java/time/temporal/ChronoUnit"), accessFlags := 16409, slot := 4, constantValue := 0 }, { name := "HOURS", type := (.object "java/time/temporal/ChronoUnit"), accessFlags := 16409, slot := 5, constantValue := 0 }, { name := "HALF_DAYS", type := (.object "java/time/temporal/ChronoUnit"), accessFlags := 16409, slot := 6, constantValue := 0 }, { name := "DAYS", type := (.object "java/time/temporal/ChronoUnit"), accessFlags := 16409, slot := 7, constantValue := 0 }, { name := "WEEKS", type := (.object "java/time/temporal/ChronoUnit"), accessFlags := 16409, slot := 8, constantValue := 0 }, { name := "MONTHS", type := (.object "java/time/temporal/ChronoUnit"), accessFlags := 16409, slot := 9, constantValue := 0 }, { name := "YEARS", type := (.object "java/time/temporal/ChronoUnit"), accessFlags := 16409, slot := 10, constantValue := 0 }, { name := "DECADES", type := (.object "java/time/temporal/ChronoUnit"), accessFlags := 16409, slot := 11, constantValue := 0 }, { name := "CENTURIES", type := (.object "java/time/temporal/ChronoUnit"), accessFlags := 16409, slot := 12, constantValue := 0 }, { name := "MILLENNIA", type := (.object "java/time/temporal/ChronoUnit"), accessFlags := 16409, slot := 13, constantValue := 0 }, { name := "ERAS", type := (.object "java/time/temporal/ChronoUnit"), accessFlags := 16409, slot := 14, constantValue := 0 }, { name := "FOREVER", type := (.object "java/time/temporal/ChronoUnit"), accessFlags := 16409, slot := 15, constantValue := 0 }, { name := "name", type := (.object "java/lang/String"), accessFlags := 18, slot := 3, constantValue := 0 }, { name := "duration", type := (.object "java/time/Duration"), accessFlags := 18, slot := 4, constantValue := 0 }, { name := "$VALUES", type := (.array (.object "java/time/temporal/ChronoUnit")), accessFlags := 4122, slot := 16, constantValue := 0 }]
  methods := #[]
  instanceTypes := #[(.object "java/lang/String"), .int, .int, (.object "java/lang/String"), (.object "java/time/Duration")]
  staticTypes := #[(.object "java/time/temporal/ChronoUnit"), (.object "java/time/temporal/ChronoUnit"), (.object "java/time/temporal/ChronoUnit"), (.object "java/time/temporal/ChronoUnit"), (.object "java/time/temporal/ChronoUnit"), (.object "java/time/temporal/ChronoUnit"), (.object "java/time/temporal/ChronoUnit"), (.object "java/time/temporal/ChronoUnit"), (.object "java/time/temporal/ChronoUnit"), (.object "java/time/temporal/ChronoUnit"), (.object "java/time/temporal/ChronoUnit"), (.object "java/time/temporal/ChronoUnit"), (.object "java/time/temporal/ChronoUnit"), (.object "java/time/temporal/ChronoUnit"), (.object "java/time/temporal/ChronoUnit"), (.object "java/time/temporal/ChronoUnit"), (.array (.object "java/time/temporal/ChronoUnit"))]
  resolved := Array.replicate 237 none
  statics := some 1 }

def pool9 : Array CpInfo := pool [(2, .class_ 4), (1, u "java/lang/CharSequence"), (42, .class_ 48), (0, u "java/lang/CharSequence$1CodePointIterator"), (10, .class_ 60), (0, u "java/lang/CharSequence$1CharIterator"), (5, .class_ 67), (0, u "java/lang/Object")] 63

/-- java/lang/CharSequence -/
def k9 : Class := { plain "java/lang/CharSequence" (some 0) with
  accessFlags := 1537
  interfaces := #[]
  cf := some (fileOf pool9 2 #[.nestMembers #[47, 59]] #[] 1537 66 #[] #[])
  fields := #[]
  methods := #[]
  instanceTypes := #[]
  staticTypes := #[]
  resolved := Array.replicate 131 none
  statics := none }

def pool10 : Array CpInfo := pool [(1, .class_ 2), (0, u "java/lang/constant/ConstantDesc"), (0, .class_ 4), (0, u "java/lang/Object")] 32

/-- java/lang/constant/ConstantDesc -/
def k10 : Class := { plain "java/lang/constant/ConstantDesc" (some 0) with
  accessFlags := 1537
  interfaces := #[]
  cf := some (fileOf pool10 1 #[] #[] 1537 3 #[] #[])
  fields := #[]
  methods := #[]
  instanceTypes := #[]
  staticTypes := #[]
  resolved := Array.replicate 37 none
  statics := none }

def pool11 : Array CpInfo := pool [(2, .class_ 4), (1, u "java/lang/Object"), (0, u "<init>"), (0, u "()V"), (3, .class_ 12), (1, u "java/lang/String"), (0, u "value"), (0, u "[B"), (2, u "coder"), (0, u "B"), (2, u "hash"), (0, u "I"), (2, u "hashIsZero"), (0, u "Z"), (13, u "COMPACT_STRINGS"), (534, .class_ 576), (0, u "java/lang/CharSequence"), (22, u "CASE_INSENSITIVE_ORDER"), (0, u "Ljava/util/Comparator;"), (500, u "serialPersistentFields"), (0, u "[Ljava/io/ObjectStreamField;"), (0, .class_ 1104), (0, u "java/lang/String$CaseInsensitiveComparator"), (1, .class_ 1107), (0, u "java/io/Serializable"), (0, .class_ 1109), (0, u "java/lang/Comparable"), (0, .class_ 1111), (0, u "java/lang/constant/Constable"), (0, .class_ 1113), (0, u "java/lang/constant/ConstantDesc"), (2, u "serialVersionUID"), (0, u "J"), (3, u "REPL"), (0, u "C"), (2, u "LATIN1"), (1, u "UTF16")] 323

def k11m0 : Method := { name := "<init>", desc := "()V", sig := { parameters := [], returnType := none }, accessFlags := 1, code := none }
/-- java/lang/String -/
def k11 : Class := { plain "java/lang/String" (some 0) with
  accessFlags := 49
  interfaces := #[4, 3, 9, 2, 10]
  cf := some (fileOf pool11 10 #[.nestMembers #[1103]] #[{ accessFlags := 1, nameIndex := 5, descriptorIndex := 6, attributes := #[] }] 49 2 #[1106, 1108, 575, 1110, 1112] #[{ accessFlags := 18, nameIndex := 13, descriptorIndex := 14, attributes := #[] }, { accessFlags := 18, nameIndex := 17, descriptorIndex := 18, attributes := #[] }, { accessFlags := 2, nameIndex := 21, descriptorIndex := 22, attributes := #[] }, { accessFlags := 2, nameIndex := 25, descriptorIndex := 26, attributes := #[] }, { accessFlags := 26, nameIndex := 1116, descriptorIndex := 1117, attributes := #[] }, { accessFlags := 24, nameIndex := 40, descriptorIndex := 26, attributes := #[] }, { accessFlags := 26, nameIndex := 1101, descriptorIndex := 1102, attributes := #[] }, { accessFlags := 26, nameIndex := 1121, descriptorIndex := 1122, attributes := #[] }, { accessFlags := 25, nameIndex := 599, descriptorIndex := 600, attributes := #[] }, { accessFlags := 24, nameIndex := 1125, descriptorIndex := 18, attributes := #[] }, { accessFlags := 24, nameIndex := 1127, descriptorIndex := 18, attributes := #[] }])
  fields := #[{ name := "value", type := (.array .byte), accessFlags := 18, slot := 0, constantValue := 0 }, { name := "coder", type := .byte, accessFlags := 18, slot := 1, constantValue := 0 }, { name := "hash", type := .int, accessFlags := 2, slot := 2, constantValue := 0 }, { name := "hashIsZero", type := .boolean, accessFlags := 2, slot := 3, constantValue := 0 }, { name := "serialVersionUID", type := .long, accessFlags := 26, slot := 0, constantValue := 0 }, { name := "COMPACT_STRINGS", type := .boolean, accessFlags := 24, slot := 1, constantValue := 0 }, { name := "serialPersistentFields", type := (.array (.object "java/io/ObjectStreamField")), accessFlags := 26, slot := 2, constantValue := 0 }, { name := "REPL", type := .char, accessFlags := 26, slot := 3, constantValue := 0 }, { name := "CASE_INSENSITIVE_ORDER", type := (.object "java/util/Comparator"), accessFlags := 25, slot := 4, constantValue := 0 }, { name := "LATIN1", type := .byte, accessFlags := 24, slot := 5, constantValue := 0 }, { name := "UTF16", type := .byte, accessFlags := 24, slot := 6, constantValue := 0 }]
  methods := #[k11m0]
  instanceTypes := #[(.array .byte), .byte, .int, .boolean]
  staticTypes := #[.long, .boolean, (.array (.object "java/io/ObjectStreamField")), .char, (.object "java/util/Comparator"), .byte, .byte]
  resolved := Array.replicate 1451 none
  statics := none }

def pool12 : Array CpInfo := pool [(1, .class_ 2), (0, u "java/time/temporal/TemporalAmount"), (0, .class_ 4), (0, u "java/lang/Object")] 11

/-- java/time/temporal/TemporalAmount -/
def k12 : Class := { plain "java/time/temporal/TemporalAmount" (some 0) with
  accessFlags := 1537
  interfaces := #[]
  cf := some (fileOf pool12 1 #[] #[] 1537 3 #[] #[])
  fields := #[]
  methods := #[]
  instanceTypes := #[]
  staticTypes := #[]
  resolved := Array.replicate 16 none
  statics := none }

def pool13 : Array CpInfo := pool [(11, .class_ 13), (1, u "java/time/Duration"), (20, u "ZERO"), (0, u "Ljava/time/Duration;"), (13, .class_ 51), (1, u "java/time/temporal/TemporalAmount"), (27, .class_ 81), (1, u "java/time/Duration$Lazy"), (35, u "seconds"), (101, .class_ 220), (0, u "java/lang/Object"), (2, u "J"), (2, u "nanos"), (0, u "I"), (11, .class_ 241), (1, u "java/time/Duration$DurationUnits"), (27, .class_ 271), (1, u "java/time/Duration$1"), (91, u "BI_NANOS_PER_SECOND"), (0, u "Ljava/math/BigInteger;"), (120, .class_ 486), (0, u "java/lang/Comparable"), (0, .class_ 488), (0, u "java/io/Serializable"), (0, u "serialVersionUID")] 166

/-- java/time/Duration -/
def k13 : Class := { plain "java/time/Duration" (some 0) with
  accessFlags := 49
  interfaces := #[12, 3, 4]
  cf := some (fileOf pool13 11 #[.nestMembers #[269, 239, 79]] #[] 49 219 #[49, 485, 487] #[{ accessFlags := 25, nameIndex := 34, descriptorIndex := 35, attributes := #[] }, { accessFlags := 26, nameIndex := 489, descriptorIndex := 223, attributes := #[] }, { accessFlags := 26, nameIndex := 363, descriptorIndex := 364, attributes := #[] }, { accessFlags := 18, nameIndex := 117, descriptorIndex := 223, attributes := #[] }, { accessFlags := 18, nameIndex := 226, descriptorIndex := 227, attributes := #[] }])
  fields := #[{ name := "ZERO", type := (.object "java/time/Duration"), accessFlags := 25, slot := 0, constantValue := 0 }, { name := "serialVersionUID", type := .long, accessFlags := 26, slot := 1, constantValue := 0 }, { name := "BI_NANOS_PER_SECOND", type := (.object "java/math/BigInteger"), accessFlags := 26, slot := 2, constantValue := 0 }, { name := "seconds", type := .long, accessFlags := 18, slot := 0, constantValue := 0 }, { name := "nanos", type := .int, accessFlags := 18, slot := 1, constantValue := 0 }]
  methods := #[]
  instanceTypes := #[.long, .int]
  staticTypes := #[(.object "java/time/Duration"), .long, (.object "java/math/BigInteger")]
  resolved := Array.replicate 656 none
  statics := none }

def pool14 : Array CpInfo := pool [(1, u "java/lang/Cloneable"), (0, .class_ 1), (0, u "java/lang/Object"), (0, .class_ 3)] 3

/-- java/lang/Cloneable -/
def k14 : Class := { plain "java/lang/Cloneable" (some 0) with
  accessFlags := 1537
  interfaces := #[]
  cf := some (fileOf pool14 2 #[] #[] 1537 4 #[] #[])
  fields := #[]
  methods := #[]
  instanceTypes := #[]
  staticTypes := #[]
  resolved := Array.replicate 8 none
  statics := none }

/-- the primitive byte -/
def k15 : Class := { plain "byte" none with kind := .primitive 'B', accessFlags := 0x411 }
/-- [B -/
def k16 : Class := { plain "[B" (some 0) with kind := .array 15 .byte, interfaces := #[14, 4], accessFlags := 1041 }

def heap : Heap := #[{ cls := 6, slots := #[.ref 2, .ref 7, .ref 6, .ref 3, .ref 8, .ref 9, .ref 4, .ref 5, .null], vm := .statics 6 },
  { cls := 8, slots := #[.null, .null, .null, .null, .null, .null, .null, .null, .null, .ref 10, .null, .null, .null, .null, .null, .null, .null], vm := .statics 8 },
  { cls := 6, slots := #[.null, .int 0, .int 0, .null, .int 1, .ref 11], vm := .none },
  { cls := 6, slots := #[.null, .int 1, .int 0, .null, .int 1, .ref 10], vm := .none },
  { cls := 6, slots := #[.null, .int 2, .int 0, .null, .int 1, .ref 10], vm := .none },
  { cls := 6, slots := #[.null, .int 3, .int 0, .null, .int 1, .ref 10], vm := .none },
  { cls := 6, slots := #[.null, .int 4, .int 0, .null, .int 1, .ref 11], vm := .none },
  { cls := 6, slots := #[.null, .int 5, .int 0, .null, .int 1, .ref 11], vm := .none },
  { cls := 6, slots := #[.null, .int 6, .int 0, .null, .int 1, .ref 10], vm := .none },
  { cls := 6, slots := #[.null, .int 7, .int 0, .null, .int 1, .ref 10], vm := .none },
  { cls := 8, slots := #[.ref 12, .int 9, .int 0, .ref 12, .ref 13], vm := .none },
  { cls := 8, slots := #[.null, .int 7, .int 0, .null, .null], vm := .none },
  { cls := 11, slots := #[.null, .int 0, .int 0, .int 0], vm := .none },
  { cls := 13, slots := #[.long 2629746, .int 0], vm := .none }]
def classes : Array Class := #[k0, k1, k2, k3, k4, k5, k6, k7, k8, k9, k10, k11, k12, k13, k14, k15, k16]
def interned : List (Array UInt16 × Addr) := []
def slotsUsed : Nat := 90
def theMethod : MethodId := ⟨1, 1⟩
def args0 : Array Value := #[.int 5]
def aboutOver (below : List Frame) : State where
  vm := { classes := classes, interned := interned.toArray }
  heap := heap
  slotsUsed := slotsUsed
  threads := #[{ frames := .invoking theMethod args0 :: below }]
def below0 : List Frame := [.native { method := ⟨0, 0⟩, args := #[] }]
def about1 : State := aboutOver below0
def p0 : Program := .bare "" "" ""
def e0 : Env := launch0.env 0 0 0
theorem w_frames : about1.frames = Frame.invoking theMethod args0 :: below0 := rfl
set_option maxRecDepth 65536 in
theorem w_args : argsFit about1.vm theMethod args0 = true := by decide +kernel
set_option maxRecDepth 65536 in
theorem w_heap : heapFits about1 = true := by decide +kernel
set_option maxRecDepth 65536 in
theorem w_runnable : about1.curStatus? = some .runnable := by decide +kernel
set_option maxRecDepth 65536 in
theorem w_alone : about1.alone = true := by decide +kernel
set_option maxRecDepth 65536 in
theorem w_named : about1.methodNamed? x = some theMethod := by decide +kernel
set_option maxRecDepth 65536 in
theorem w_hears : about1.hears theMethod below0 = true := by decide +kernel
set_option maxRecDepth 65536 in
theorem w_ripe : about1.ripe theMethod args0 below0 = true := by decide +kernel
theorem w_running : about1.status = .running := rfl
set_option maxRecDepth 65536 in
theorem w_room : about1.hasRoom e0.platform room_1 = true :=
  launch0.hasRoom_least _ room_1 (by decide +kernel) (by decide +kernel) (by decide +kernel) (by decide +kernel) (by decide +kernel) (by decide +kernel)
theorem allAtoms_all (ts : List Jvm.Cond) (a : Array Jvm.Value) (st : Jvm.State) : (allAtoms ts).before a st = ts.all (fun c => c.before a st) := by
  induction ts with
  | nil => rfl
  | cons c t ih =>
    show (Jvm.Cond.and c (allAtoms t)).before a st = _
    rw [Jvm.Cond.before_and, ih, List.all_cons]
def words1 : List Jvm.Cond := Jvm.Cond.code x code maxLocals ret :: tables_1
/-- a 'code' word, met by the world's own term for the bytes: nothing is compared byte by byte -/
theorem code_word {y : MethodName} {bytes : ByteArray} {mx : Nat} {rt : Option FieldType} {a : Array Value} {s : State} {m : MethodId} {meth : Method} {c : Code} (h1 : s.methodNamed? y = some m) (h2 : s.vm.method? m = some meth) (h3 : meth.code = some c) (h4 : c.code = bytes)
    (h5 : (c.maxLocals == mx && c.exceptionTable.isEmpty && decide (c.maxStack ≤ mostOperands) && decide (meth.sig.returnType = rt) && !meth.locks && decide (parseMethodDescriptor y.desc = some meth.sig)) = true) : (Jvm.Cond.code y bytes mx rt).before a s = true := by
  simp only [Bool.and_eq_true, beq_iff_eq, Bool.not_eq_true', decide_eq_true_eq] at h5
  obtain ⟨⟨⟨⟨⟨g1, g2⟩, g3⟩, g4⟩, g5⟩, g6⟩ := h5
  simp [Cond.before, Cond.holds, Cond.value, h1, h2, h3, h4, g1, g2, g3, g4, g5, g6]
def isCode : Jvm.Cond → Bool
  | .code _ _ _ _ => true
  | _ => false
theorem all_split {L : List Jvm.Cond} {P : Jvm.Cond → Bool} (h1 : L.all (fun c => isCode c || P c) = true) (h2 : ∀ c ∈ L.filter isCode, P c = true) : L.all P = true := by
  refine List.all_eq_true.mpr fun c hc => ?_
  have h := List.all_eq_true.mp h1 c hc
  rcases Bool.eq_false_or_eq_true (isCode c) with hi | hi
  · exact h2 c (List.mem_filter.mpr ⟨hc, hi⟩)
  · simpa [hi] using h
set_option maxRecDepth 65536 in
theorem w_c0 : (Jvm.Cond.code x code maxLocals ret).before args0 about1 = true := code_word (m := ⟨1, 1⟩) (meth := k1m1) (c := k1c1) (by decide +kernel) rfl rfl rfl (by decide +kernel)
set_option maxRecDepth 65536 in
theorem w_c1 : (Jvm.Cond.code ({ cls := "com/example/ledgerwheel/ledgerwheel/Frequency", name := "keepsAnAnchorDay", desc := "()Z" } : Jvm.MethodName) prog_28_method_5_code (1 : Nat) (Option.some Jvm.ClassFile.FieldType.boolean)).before args0 about1 = true := code_word (m := ⟨6, 0⟩) (meth := k6m0) (c := k6c0) (by decide +kernel) rfl rfl rfl (by decide +kernel)
def codes1 : List Jvm.Cond := [Jvm.Cond.code x code maxLocals ret, Jvm.Cond.code ({ cls := "com/example/ledgerwheel/ledgerwheel/Frequency", name := "keepsAnAnchorDay", desc := "()Z" } : Jvm.MethodName) prog_28_method_5_code (1 : Nat) (Option.some Jvm.ClassFile.FieldType.boolean)]
set_option maxRecDepth 65536 in
theorem codes_eq : words1.filter isCode = codes1 := rfl
theorem w_codes : ∀ c ∈ words1.filter isCode, c.before args0 about1 = true := by
  rw [codes_eq]
  intro c hc
  simp only [codes1, List.mem_cons, List.not_mem_nil, or_false] at hc
  rcases hc with rfl | rfl
  · exact w_c0
  · exact w_c1
set_option maxRecDepth 65536 in
theorem w_t1 : (words1.take 24).all (fun c => isCode c || c.before args0 about1) = true := by decide +kernel
set_option maxRecDepth 65536 in
theorem w_t2 : (words1.drop 24).all (fun c => isCode c || c.before args0 about1) = true := by decide +kernel
theorem w_tables : (allAtoms (Jvm.Cond.code x code maxLocals ret :: tables_1)).before args0 about1 = true := by
  rw [allAtoms_all]
  show words1.all (fun c => c.before args0 about1) = true
  refine all_split ?_ w_codes
  rw [← List.take_append_drop 24 words1, List.all_append, w_t1, w_t2]
  rfl
set_option maxRecDepth 65536 in
theorem w_rest : rest_1_c.before args0 about1 = true := by decide +kernel
set_option maxRecDepth 65536 in
theorem w_case : (Jvm.Cond.and given_1 narrow_1).before args0 about1 = true := by decide +kernel
theorem w_applies : (headSpec (Jvm.Cond.code x code maxLocals ret :: tables_1) room_1).applies x e0.platform about1 = true :=
  (Spec.applies_iff w_frames).mpr ⟨w_running, w_runnable, w_alone, w_named, w_hears, w_ripe, w_room, w_tables⟩
theorem atStart : AtStart classFile x code maxLocals ret World_1 tables_1 room_1 Calls_1 rest_1 Pre_1 launch0 p0 e0 about1 theMethod args0 below0 :=
  ⟨lists_1, trivial, launch0.admits_env _ _ _, launch0.least_env, fairChoices_fair.cas, fairChoices_fair.clock, w_frames, w_args, w_heap, w_applies, trivial, w_rest, w_case⟩
end start1
theorem witness_1 : WitnessClaimed_1 := ⟨start1.p0, start1.e0, start1.about1, start1.theMethod, start1.args0, start1.below0, start1.atStart⟩
end Jvm.Pilot.@@N@@
