import JvmDerived
import JvmDerived.Pilot.@@N@@Statement
import JvmDerived.Pilot.@@N@@Code
set_option linter.unusedVariables false
set_option linter.unusedSimpArgs false
namespace Jvm.Pilot.@@N@@
open Jvm Jvm.ClassFile Sem Op Lib Jvm.Free Jvm.Stand Jvm.LawKit Jvm.RoadKit Bundle Jvm.Pilot.@@N@@.Jvm.D
/-! the plain part: ints and identities -/
def own_Q (w : Value) (h0 : Heap) (n0 : Nat) (v : Option Value) (h : Heap) (L : List Loc) : Prop := v = some w ∧ Fr n0 L ∧ h = h0
theorem own_fld {args : Array Value} {s : State} {t : Term} {a : Addr} {C n d : String} {k : Int32} (ht : t.eval args s none [] s = some (.ref a)) (h : (Jvm.Cond.eq (.field t C n d) (.int k)).value args s none s [] = some true) : s.fieldOf? a C n d = some (.int k) := by
  obtain ⟨x, y, e1, e2, -, k2⟩ := cmp_v (Or.inl h)
  rw [Term.int_eval] at e2
  cases e2
  obtain ⟨z, rfl⟩ := k2
  have q : (Jvm.Cond.eq (.field t C n d) (.int k)).value args s none s [] = some (decide (z = k)) := Cond.eq_ints e1 (Term.int_eval k)
  have hz : z = k := gotT q h
  subst hz
  rw [fld_at ht] at e1
  exact e1
theorem own_ne {s : State} {a b : Addr} {C n d : String} {x y : Int32} (h1 : s.fieldOf? a C n d = some (.int x)) (h2 : s.fieldOf? b C n d = some (.int y)) (h : x ≠ y) : ¬ (a = b) := fun q => by
  subst q
  rw [h1] at h2
  exact h (Value.int.inj (Option.some.inj h2))
theorem own_rem (x n : Int32) (d : Int) (hd : n.toInt = d) (h0 : 0 < d) : 0 ≤ ((x &&& (2147483647 : Int32)) % n).toInt ∧ ((x &&& (2147483647 : Int32)) % n).toInt < d := by
  have h := (c_and x (2147483647 : Int32) (by decide)).1
  rw [(c_irem _ n d hd).1 h]
  exact ⟨Int.emod_nonneg _ (by omega), Int.emod_lt_of_pos _ h0⟩
theorem own_few10 (x : Int32) (h0 : 0 ≤ x.toInt) (h1 : x.toInt < 10) : x = (0 : Int32) ∨ x = (1 : Int32) ∨ x = (2 : Int32) ∨ x = (3 : Int32) ∨ x = (4 : Int32) ∨ x = (5 : Int32) ∨ x = (6 : Int32) ∨ x = (7 : Int32) ∨ x = (8 : Int32) ∨ x = (9 : Int32) := by
  have q : x.toInt = 0 ∨ x.toInt = 1 ∨ x.toInt = 2 ∨ x.toInt = 3 ∨ x.toInt = 4 ∨ x.toInt = 5 ∨ x.toInt = 6 ∨ x.toInt = 7 ∨ x.toInt = 8 ∨ x.toInt = 9 := by omega
  rcases q with q | q | q | q | q | q | q | q | q | q
  · exact (Or.inl (Int32.toInt_inj.mp (q.trans (by decide))))
  · exact (Or.inr (Or.inl (Int32.toInt_inj.mp (q.trans (by decide)))))
  · exact (Or.inr (Or.inr (Or.inl (Int32.toInt_inj.mp (q.trans (by decide))))))
  · exact (Or.inr (Or.inr (Or.inr (Or.inl (Int32.toInt_inj.mp (q.trans (by decide)))))))
  · exact (Or.inr (Or.inr (Or.inr (Or.inr (Or.inl (Int32.toInt_inj.mp (q.trans (by decide))))))))
  · exact (Or.inr (Or.inr (Or.inr (Or.inr (Or.inr (Or.inl (Int32.toInt_inj.mp (q.trans (by decide)))))))))
  · exact (Or.inr (Or.inr (Or.inr (Or.inr (Or.inr (Or.inr (Or.inl (Int32.toInt_inj.mp (q.trans (by decide))))))))))
  · exact (Or.inr (Or.inr (Or.inr (Or.inr (Or.inr (Or.inr (Or.inr (Or.inl (Int32.toInt_inj.mp (q.trans (by decide)))))))))))
  · exact (Or.inr (Or.inr (Or.inr (Or.inr (Or.inr (Or.inr (Or.inr (Or.inr (Or.inl (Int32.toInt_inj.mp (q.trans (by decide))))))))))))
  · exact (Or.inr (Or.inr (Or.inr (Or.inr (Or.inr (Or.inr (Or.inr (Or.inr (Or.inr (Int32.toInt_inj.mp (q.trans (by decide))))))))))))
def own_Pin (Z : State) (h : Heap) (a_PASSWORD_EXPIRED a_PASSWORD_MOD_NOT_ALLOWED a_ACCOUNT_LOCKED a_MUST_SUPPLY_OLD_PASSWORD a_PASSWORD_TOO_YOUNG a_CHANGE_AFTER_RESET a_PASSWORD_IN_HISTORY a_INSUFFICIENT_PASSWORD_QUALITY a_PASSWORD_TOO_SHORT : Addr) : Prop := Sta Z h "com/example/passwarden/passwarden/core/PolicyError" "PASSWORD_EXPIRED" "Lcom/example/passwarden/passwarden/core/PolicyError;" (.ref a_PASSWORD_EXPIRED) ∧ Sta Z h "com/example/passwarden/passwarden/core/PolicyError" "PASSWORD_MOD_NOT_ALLOWED" "Lcom/example/passwarden/passwarden/core/PolicyError;" (.ref a_PASSWORD_MOD_NOT_ALLOWED) ∧ Sta Z h "com/example/passwarden/passwarden/core/PolicyError" "ACCOUNT_LOCKED" "Lcom/example/passwarden/passwarden/core/PolicyError;" (.ref a_ACCOUNT_LOCKED) ∧ Sta Z h "com/example/passwarden/passwarden/core/PolicyError" "MUST_SUPPLY_OLD_PASSWORD" "Lcom/example/passwarden/passwarden/core/PolicyError;" (.ref a_MUST_SUPPLY_OLD_PASSWORD) ∧ Sta Z h "com/example/passwarden/passwarden/core/PolicyError" "PASSWORD_TOO_YOUNG" "Lcom/example/passwarden/passwarden/core/PolicyError;" (.ref a_PASSWORD_TOO_YOUNG) ∧ Sta Z h "com/example/passwarden/passwarden/core/PolicyError" "CHANGE_AFTER_RESET" "Lcom/example/passwarden/passwarden/core/PolicyError;" (.ref a_CHANGE_AFTER_RESET) ∧ Sta Z h "com/example/passwarden/passwarden/core/PolicyError" "PASSWORD_IN_HISTORY" "Lcom/example/passwarden/passwarden/core/PolicyError;" (.ref a_PASSWORD_IN_HISTORY) ∧ Sta Z h "com/example/passwarden/passwarden/core/PolicyError" "INSUFFICIENT_PASSWORD_QUALITY" "Lcom/example/passwarden/passwarden/core/PolicyError;" (.ref a_INSUFFICIENT_PASSWORD_QUALITY) ∧ Sta Z h "com/example/passwarden/passwarden/core/PolicyError" "PASSWORD_TOO_SHORT" "Lcom/example/passwarden/passwarden/core/PolicyError;" (.ref a_PASSWORD_TOO_SHORT) ∧ Exa Z h a_PASSWORD_EXPIRED "com/example/passwarden/passwarden/core/PolicyError" ∧ Exa Z h a_PASSWORD_MOD_NOT_ALLOWED "com/example/passwarden/passwarden/core/PolicyError" ∧ Exa Z h a_ACCOUNT_LOCKED "com/example/passwarden/passwarden/core/PolicyError" ∧ Exa Z h a_MUST_SUPPLY_OLD_PASSWORD "com/example/passwarden/passwarden/core/PolicyError" ∧ Exa Z h a_PASSWORD_TOO_YOUNG "com/example/passwarden/passwarden/core/PolicyError" ∧ Exa Z h a_CHANGE_AFTER_RESET "com/example/passwarden/passwarden/core/PolicyError" ∧ Exa Z h a_PASSWORD_IN_HISTORY "com/example/passwarden/passwarden/core/PolicyError" ∧ Exa Z h a_INSUFFICIENT_PASSWORD_QUALITY "com/example/passwarden/passwarden/core/PolicyError" ∧ Exa Z h a_PASSWORD_TOO_SHORT "com/example/passwarden/passwarden/core/PolicyError"
theorem own_pn0 : plainName "com/example/passwarden/passwarden/core/ChangeDecision" = true := by first | (simp [plainName, overriddenIn]; done) | decide +kernel
theorem own_pn1 : plainName "com/example/passwarden/passwarden/core/ChangeDecisionRefusedPinLaw" = true := by first | (simp [plainName, overriddenIn]; done) | decide +kernel
theorem own_pd0 : parseMethodDescriptor "(I)Lcom/example/passwarden/passwarden/core/PolicyError;" = some ⟨[.int], (some (.object "com/example/passwarden/passwarden/core/PolicyError"))⟩ := by decide +kernel
theorem own_pd1 : parseMethodDescriptor "(Lcom/example/passwarden/passwarden/core/PolicyError;)Lcom/example/passwarden/passwarden/core/ChangeDecision;" = some ⟨[(.object "com/example/passwarden/passwarden/core/PolicyError")], (some (.object "com/example/passwarden/passwarden/core/ChangeDecision"))⟩ := by decide +kernel
theorem own_pd2 : parseMethodDescriptor "()Z" = some ⟨[], (some .boolean)⟩ := by decide +kernel
theorem own_pd3 : parseMethodDescriptor "()Lcom/example/passwarden/passwarden/core/PolicyError;" = some ⟨[], (some (.object "com/example/passwarden/passwarden/core/PolicyError"))⟩ := by decide +kernel
theorem own_pd4 : parseMethodDescriptor "()[B" = some ⟨[], (some (.array .byte))⟩ := by decide +kernel
theorem own_pd5 : parseMethodDescriptor "()Lcom/example/passwarden/passwarden/core/AccountState;" = some ⟨[], (some (.object "com/example/passwarden/passwarden/core/AccountState"))⟩ := by decide +kernel
theorem own_pd6 : parseMethodDescriptor "()Lcom/example/passwarden/passwarden/core/PasswordHistory;" = some ⟨[], (some (.object "com/example/passwarden/passwarden/core/PasswordHistory"))⟩ := by decide +kernel
theorem d5_0 : decode prog_4_method_4_code 0 = .ok (.aload_n 0, 1) := by decide +kernel
theorem d5_1 : decode prog_4_method_4_code 1 = .ok (.getfield 7, 3) := by decide +kernel
theorem d5_4 : decode prog_4_method_4_code 4 = .ok (.ireturn, 1) := by decide +kernel
theorem d6_0 : decode prog_4_method_5_code 0 = .ok (.aload_n 0, 1) := by decide +kernel
theorem d6_1 : decode prog_4_method_5_code 1 = .ok (.getfield 13, 3) := by decide +kernel
theorem d6_4 : decode prog_4_method_5_code 4 = .ok (.areturn, 1) := by decide +kernel
theorem d7_0 : decode prog_4_method_6_code 0 = .ok (.aload_n 0, 1) := by decide +kernel
theorem d7_1 : decode prog_4_method_6_code 1 = .ok (.getfield 17, 3) := by decide +kernel
theorem d7_4 : decode prog_4_method_6_code 4 = .ok (.areturn, 1) := by decide +kernel
theorem d8_0 : decode prog_4_method_7_code 0 = .ok (.aload_n 0, 1) := by decide +kernel
theorem d8_1 : decode prog_4_method_7_code 1 = .ok (.getfield 21, 3) := by decide +kernel
theorem d8_4 : decode prog_4_method_7_code 4 = .ok (.areturn, 1) := by decide +kernel
theorem d9_0 : decode prog_4_method_8_code 0 = .ok (.aload_n 0, 1) := by decide +kernel
theorem d9_1 : decode prog_4_method_8_code 1 = .ok (.getfield 25, 3) := by decide +kernel
theorem d9_4 : decode prog_4_method_8_code 4 = .ok (.areturn, 1) := by decide +kernel
theorem d1_0 : decode method_2_code 0 = .ok (.iload_n 0, 1) := by decide +kernel
theorem d1_1 : decode method_2_code 1 = .ok (.ifCond .ne 7, 3) := by decide +kernel
theorem d1_4 : decode method_2_code 4 = .ok (.getstatic 7, 3) := by decide +kernel
theorem d1_7 : decode method_2_code 7 = .ok (.areturn, 1) := by decide +kernel
theorem d1_8 : decode method_2_code 8 = .ok (.iload_n 0, 1) := by decide +kernel
theorem d1_9 : decode method_2_code 9 = .ok (.iconst 1, 1) := by decide +kernel
theorem d1_10 : decode method_2_code 10 = .ok (.if_icmp .ne 7, 3) := by decide +kernel
theorem d1_13 : decode method_2_code 13 = .ok (.getstatic 13, 3) := by decide +kernel
theorem d1_16 : decode method_2_code 16 = .ok (.areturn, 1) := by decide +kernel
theorem d1_17 : decode method_2_code 17 = .ok (.iload_n 0, 1) := by decide +kernel
theorem d1_18 : decode method_2_code 18 = .ok (.iconst 2, 1) := by decide +kernel
theorem d1_19 : decode method_2_code 19 = .ok (.if_icmp .ne 7, 3) := by decide +kernel
theorem d1_22 : decode method_2_code 22 = .ok (.getstatic 16, 3) := by decide +kernel
theorem d1_25 : decode method_2_code 25 = .ok (.areturn, 1) := by decide +kernel
theorem d1_26 : decode method_2_code 26 = .ok (.iload_n 0, 1) := by decide +kernel
theorem d1_27 : decode method_2_code 27 = .ok (.iconst 3, 1) := by decide +kernel
theorem d1_28 : decode method_2_code 28 = .ok (.if_icmp .ne 7, 3) := by decide +kernel
theorem d1_31 : decode method_2_code 31 = .ok (.getstatic 19, 3) := by decide +kernel
theorem d1_34 : decode method_2_code 34 = .ok (.areturn, 1) := by decide +kernel
theorem d1_35 : decode method_2_code 35 = .ok (.iload_n 0, 1) := by decide +kernel
theorem d1_36 : decode method_2_code 36 = .ok (.iconst 4, 1) := by decide +kernel
theorem d1_37 : decode method_2_code 37 = .ok (.if_icmp .ne 7, 3) := by decide +kernel
theorem d1_40 : decode method_2_code 40 = .ok (.getstatic 22, 3) := by decide +kernel
theorem d1_43 : decode method_2_code 43 = .ok (.areturn, 1) := by decide +kernel
theorem d1_44 : decode method_2_code 44 = .ok (.iload_n 0, 1) := by decide +kernel
theorem d1_45 : decode method_2_code 45 = .ok (.iconst 5, 1) := by decide +kernel
theorem d1_46 : decode method_2_code 46 = .ok (.if_icmp .ne 7, 3) := by decide +kernel
theorem d1_49 : decode method_2_code 49 = .ok (.getstatic 25, 3) := by decide +kernel
theorem d1_52 : decode method_2_code 52 = .ok (.areturn, 1) := by decide +kernel
theorem d1_53 : decode method_2_code 53 = .ok (.iload_n 0, 1) := by decide +kernel
theorem d1_54 : decode method_2_code 54 = .ok (.bipush 6, 2) := by decide +kernel
theorem d1_56 : decode method_2_code 56 = .ok (.if_icmp .ne 7, 3) := by decide +kernel
theorem d1_59 : decode method_2_code 59 = .ok (.getstatic 28, 3) := by decide +kernel
theorem d1_62 : decode method_2_code 62 = .ok (.areturn, 1) := by decide +kernel
theorem d1_63 : decode method_2_code 63 = .ok (.iload_n 0, 1) := by decide +kernel
theorem d1_64 : decode method_2_code 64 = .ok (.bipush 7, 2) := by decide +kernel
theorem d1_66 : decode method_2_code 66 = .ok (.if_icmp .ne 7, 3) := by decide +kernel
theorem d1_69 : decode method_2_code 69 = .ok (.getstatic 31, 3) := by decide +kernel
theorem d1_72 : decode method_2_code 72 = .ok (.areturn, 1) := by decide +kernel
theorem d1_73 : decode method_2_code 73 = .ok (.iload_n 0, 1) := by decide +kernel
theorem d1_74 : decode method_2_code 74 = .ok (.bipush 8, 2) := by decide +kernel
theorem d1_76 : decode method_2_code 76 = .ok (.if_icmp .ne 7, 3) := by decide +kernel
theorem d1_79 : decode method_2_code 79 = .ok (.getstatic 34, 3) := by decide +kernel
theorem d1_82 : decode method_2_code 82 = .ok (.areturn, 1) := by decide +kernel
theorem d1_83 : decode method_2_code 83 = .ok (.aconst_null, 1) := by decide +kernel
theorem d1_84 : decode method_2_code 84 = .ok (.areturn, 1) := by decide +kernel
theorem own_pnC : plainName "com/example/passwarden/passwarden/core/ChangeDecision" = true := by first | (simp [plainName, overriddenIn]; done) | decide +kernel
theorem d3_0 : decode prog_4_method_1_code 0 = .ok (.aload_n 0, 1) := by decide +kernel
theorem d3_1 : decode prog_4_method_1_code 1 = .ok (.invokespecial 1, 3) := by decide +kernel
theorem d3_4 : decode prog_4_method_1_code 4 = .ok (.aload_n 0, 1) := by decide +kernel
theorem d3_5 : decode prog_4_method_1_code 5 = .ok (.iload_n 1, 1) := by decide +kernel
theorem d3_6 : decode prog_4_method_1_code 6 = .ok (.putfield 7, 3) := by decide +kernel
theorem d3_9 : decode prog_4_method_1_code 9 = .ok (.aload_n 0, 1) := by decide +kernel
theorem d3_10 : decode prog_4_method_1_code 10 = .ok (.aload_n 2, 1) := by decide +kernel
theorem d3_11 : decode prog_4_method_1_code 11 = .ok (.putfield 13, 3) := by decide +kernel
theorem d3_14 : decode prog_4_method_1_code 14 = .ok (.aload_n 0, 1) := by decide +kernel
theorem d3_15 : decode prog_4_method_1_code 15 = .ok (.aload_n 3, 1) := by decide +kernel
theorem d3_16 : decode prog_4_method_1_code 16 = .ok (.putfield 17, 3) := by decide +kernel
theorem d3_19 : decode prog_4_method_1_code 19 = .ok (.aload_n 0, 1) := by decide +kernel
theorem d3_20 : decode prog_4_method_1_code 20 = .ok (.aload 4, 2) := by decide +kernel
theorem d3_22 : decode prog_4_method_1_code 22 = .ok (.putfield 21, 3) := by decide +kernel
theorem d3_25 : decode prog_4_method_1_code 25 = .ok (.aload_n 0, 1) := by decide +kernel
theorem d3_26 : decode prog_4_method_1_code 26 = .ok (.aload 5, 2) := by decide +kernel
theorem d3_28 : decode prog_4_method_1_code 28 = .ok (.putfield 25, 3) := by decide +kernel
theorem d3_31 : decode prog_4_method_1_code 31 = .ok (.return_, 1) := by decide +kernel
theorem d2_0 : decode prog_4_method_3_code 0 = .ok (.new 8, 3) := by decide +kernel
theorem d2_3 : decode prog_4_method_3_code 3 = .ok (.dup, 1) := by decide +kernel
theorem d2_4 : decode prog_4_method_3_code 4 = .ok (.iconst 0, 1) := by decide +kernel
theorem d2_5 : decode prog_4_method_3_code 5 = .ok (.aload_n 0, 1) := by decide +kernel
theorem d2_6 : decode prog_4_method_3_code 6 = .ok (.aconst_null, 1) := by decide +kernel
theorem d2_7 : decode prog_4_method_3_code 7 = .ok (.aconst_null, 1) := by decide +kernel
theorem d2_8 : decode prog_4_method_3_code 8 = .ok (.aconst_null, 1) := by decide +kernel
theorem d2_9 : decode prog_4_method_3_code 9 = .ok (.invokespecial 29, 3) := by decide +kernel
theorem d2_12 : decode prog_4_method_3_code 12 = .ok (.areturn, 1) := by decide +kernel
theorem pd_2_2 : parseMethodDescriptor "(ZLcom/example/passwarden/passwarden/core/PolicyError;[BLcom/example/passwarden/passwarden/core/AccountState;Lcom/example/passwarden/passwarden/core/PasswordHistory;)V" = some ⟨[.boolean, (.object "com/example/passwarden/passwarden/core/PolicyError"), (.array .byte), (.object "com/example/passwarden/passwarden/core/AccountState"), (.object "com/example/passwarden/passwarden/core/PasswordHistory")], none⟩ := by decide +kernel
def own_O (W : Value) (Z : State) (a : Addr) (h : Heap) : Prop := Exa Z h a "com/example/passwarden/passwarden/core/ChangeDecision" ∧ Fld Z h a "com/example/passwarden/passwarden/core/ChangeDecision" "accepted" "Z" (.int (0 : Int32)) ∧ Fld Z h a "com/example/passwarden/passwarden/core/ChangeDecision" "error" "Lcom/example/passwarden/passwarden/core/PolicyError;" W ∧ Fld Z h a "com/example/passwarden/passwarden/core/ChangeDecision" "storedPassword" "[B" .null ∧ Fld Z h a "com/example/passwarden/passwarden/core/ChangeDecision" "state" "Lcom/example/passwarden/passwarden/core/AccountState;" .null ∧ Fld Z h a "com/example/passwarden/passwarden/core/ChangeDecision" "history" "Lcom/example/passwarden/passwarden/core/PasswordHistory;" .null
def own_QI (W : Value) (Z : State) (a : Addr) (h0 : Heap) (n0 : Nat) (v : Option Value) (h : Heap) (L : List Loc) : Prop := v = none ∧ Fr n0 L ∧ Keep h0 h [a] ∧ own_O W Z a h
def own_QR (W : Value) (Z : State) (h0 : Heap) (n0 : Nat) (v : Option Value) (h : Heap) (L : List Loc) : Prop := v = some (.ref h0.size) ∧ Fr n0 L ∧ own_O W Z h0.size h
def own_QL (w : Value) (n0 : Nat) (v : Option Value) (h : Heap) (L : List Loc) : Prop := v = some w ∧ Fr n0 L
set_option maxRecDepth 65536 in
set_option maxHeartbeats 40000000 in
theorem own_b1_0 (l : Launch) (Z : State) (a0 : Array Value) (hw : ∀ d ∈ tables_1, d.before a0 Z = true) (ws : List Jvm.Cond) (a_PASSWORD_EXPIRED a_PASSWORD_MOD_NOT_ALLOWED a_ACCOUNT_LOCKED a_MUST_SUPPLY_OLD_PASSWORD a_PASSWORD_TOO_YOUNG a_CHANGE_AFTER_RESET a_PASSWORD_IN_HISTORY a_INSUFFICIENT_PASSWORD_QUALITY a_PASSWORD_TOO_SHORT : Addr)  (h0 : Heap) (n0 : Nat) (hp : own_Pin Z h0 a_PASSWORD_EXPIRED a_PASSWORD_MOD_NOT_ALLOWED a_ACCOUNT_LOCKED a_MUST_SUPPLY_OLD_PASSWORD a_PASSWORD_TOO_YOUNG a_CHANGE_AFTER_RESET a_PASSWORD_IN_HISTORY a_INSUFFICIENT_PASSWORD_QUALITY a_PASSWORD_TOO_SHORT) :
    MetFree l (⟨"com/example/passwarden/passwarden/core/ChangeDecisionRefusedPinLaw", "pick", "(I)Lcom/example/passwarden/passwarden/core/PolicyError;"⟩ : MethodName) (head1 (Jvm.Cond.code (⟨"com/example/passwarden/passwarden/core/ChangeDecisionRefusedPinLaw", "pick", "(I)Lcom/example/passwarden/passwarden/core/PolicyError;"⟩ : MethodName) method_2_code 1 (some (.object "com/example/passwarden/passwarden/core/PolicyError")) :: ws) ({ frames := 0, cells := 0, slots := 0, locals := 0 } : Room)) (fun a U => a = #[(.int (0 : Int32))] ∧ Z.Warmed39 U.vm ∧ U.heap = h0) (fun _ _ _ _ _ => True) (fun _ U o U' => ∃ v L, o = .returned v ∧ own_Q (.ref a_PASSWORD_EXPIRED) h0 n0 v U'.heap L ∧ FrameEnd U o U' L ({ frames := 0, cells := 0, slots := 0, locals := 0 } : Room).cells ({ frames := 0, cells := 0, slots := 0, locals := 0 } : Room).slots) := by
  have hp' := hp
  obtain ⟨S_PASSWORD_EXPIRED, S_PASSWORD_MOD_NOT_ALLOWED, S_ACCOUNT_LOCKED, S_MUST_SUPPLY_OLD_PASSWORD, S_PASSWORD_TOO_YOUNG, S_CHANGE_AFTER_RESET, S_PASSWORD_IN_HISTORY, S_INSUFFICIENT_PASSWORD_QUALITY, S_PASSWORD_TOO_SHORT, E_PASSWORD_EXPIRED, E_PASSWORD_MOD_NOT_ALLOWED, E_ACCOUNT_LOCKED, E_MUST_SUPPLY_OLD_PASSWORD, E_PASSWORD_TOO_YOUNG, E_CHANGE_AFTER_RESET, E_PASSWORD_IN_HISTORY, E_INSUFFICIENT_PASSWORD_QUALITY, E_PASSWORD_TOO_SHORT⟩ := hp'
  refine MetFree.of_bodySF (plainFor_of_name own_pn1) hisR ?_
  intro p e s m args below meth c s₁ Bd hml0 hP hK
  obtain ⟨rfl, hZ, hh⟩ := hP
  have hx := Bd.exec
  have hby := Bd.bytes
  have hml : c.maxLocals = 1 := hml0
  have hown : s.vm.findClass "com/example/passwarden/passwarden/core/ChangeDecisionRefusedPinLaw" = some m.cls := findClass_of_methodNamed Bd.named
  have X0 : Stand p l e ({ frames := 0, cells := 0, slots := 0, locals := 0 } : Room) s m #[(.int (0 : Int32))] below meth c s₁ [] 0 0 := Stand.of_body Bd
  have e0 : s₁.heap = h0 := by rw [← hh, Bd.state]; rfl
  have N0 := Fr.nil n0
  have pre0 : ∀ t, Steps p.tables e below (s₁.setTop (mkF m 0 #[.val (.int (0 : Int32))] [])) t → Steps p.tables e below (s₁.setTop (entryFrame m #[(.int (0 : Int32))] 1)) t := fun t k => castTop (by first | (simp [entryFrame, mkF, argsToLocals, Value.category]; done) | rfl) k
  obtain ⟨T1, X1, e1, st1⟩ := getS X0 hx hZ hown (host := "") (hw _ (List.mem_of_getElem? (i := 5) rfl)) Via.refl e0 S_PASSWORD_EXPIRED (g := (mkF m 4 #[.val (.int (0 : Int32))] [])) rfl (hb hby d1_4)
  obtain ⟨fs, hr, hrun, hended, hW, hsame⟩ := X1.leave (v := some (.ref a_PASSWORD_EXPIRED)) (fun h => by rw [Bd.returns] at h; cases h)
  refine ⟨_, _, pre0 _ ?_, hrun, hended, _, _, rfl, ?_, ⟨_, rfl⟩, hW, hsame.mono (by decide) (by decide)⟩
  · show Steps p.tables e below (s₁.setTop (mkF m 0 #[.val (.int (0 : Int32))] [])) _
    refine XS.iloadN X0.here hx rfl (hb hby d1_0) rfl ?_
    show Steps p.tables e below (s₁.setTop (mkF m 1 #[.val (.int (0 : Int32))] [(.int (0 : Int32))])) _
    refine XS.ifNo X0.here hx rfl (hb hby d1_1) rfl (by decide) ?_
    show Steps p.tables e below (s₁.setTop (mkF m 4 #[.val (.int (0 : Int32))] [])) _
    refine st1 _ ?_
    show Steps p.tables e below (T1.setTop (mkF m 7 #[.val (.int (0 : Int32))] [(.ref a_PASSWORD_EXPIRED)])) _
    exact retOut X1 hx Bd.returns rfl (Or.inr (Or.inr (Or.inr (Or.inr ⟨rfl, rfl, rfl⟩)))) (hb hby d1_7) hr
  · show own_Q _ h0 n0 _ T1.heap _
    exact ⟨rfl, N0, e1⟩
set_option maxRecDepth 65536 in
set_option maxHeartbeats 40000000 in
theorem own_b1_1 (l : Launch) (Z : State) (a0 : Array Value) (hw : ∀ d ∈ tables_1, d.before a0 Z = true) (ws : List Jvm.Cond) (a_PASSWORD_EXPIRED a_PASSWORD_MOD_NOT_ALLOWED a_ACCOUNT_LOCKED a_MUST_SUPPLY_OLD_PASSWORD a_PASSWORD_TOO_YOUNG a_CHANGE_AFTER_RESET a_PASSWORD_IN_HISTORY a_INSUFFICIENT_PASSWORD_QUALITY a_PASSWORD_TOO_SHORT : Addr)  (h0 : Heap) (n0 : Nat) (hp : own_Pin Z h0 a_PASSWORD_EXPIRED a_PASSWORD_MOD_NOT_ALLOWED a_ACCOUNT_LOCKED a_MUST_SUPPLY_OLD_PASSWORD a_PASSWORD_TOO_YOUNG a_CHANGE_AFTER_RESET a_PASSWORD_IN_HISTORY a_INSUFFICIENT_PASSWORD_QUALITY a_PASSWORD_TOO_SHORT) :
    MetFree l (⟨"com/example/passwarden/passwarden/core/ChangeDecisionRefusedPinLaw", "pick", "(I)Lcom/example/passwarden/passwarden/core/PolicyError;"⟩ : MethodName) (head1 (Jvm.Cond.code (⟨"com/example/passwarden/passwarden/core/ChangeDecisionRefusedPinLaw", "pick", "(I)Lcom/example/passwarden/passwarden/core/PolicyError;"⟩ : MethodName) method_2_code 1 (some (.object "com/example/passwarden/passwarden/core/PolicyError")) :: ws) ({ frames := 0, cells := 0, slots := 0, locals := 0 } : Room)) (fun a U => a = #[(.int (1 : Int32))] ∧ Z.Warmed39 U.vm ∧ U.heap = h0) (fun _ _ _ _ _ => True) (fun _ U o U' => ∃ v L, o = .returned v ∧ own_Q (.ref a_ACCOUNT_LOCKED) h0 n0 v U'.heap L ∧ FrameEnd U o U' L ({ frames := 0, cells := 0, slots := 0, locals := 0 } : Room).cells ({ frames := 0, cells := 0, slots := 0, locals := 0 } : Room).slots) := by
  have hp' := hp
  obtain ⟨S_PASSWORD_EXPIRED, S_PASSWORD_MOD_NOT_ALLOWED, S_ACCOUNT_LOCKED, S_MUST_SUPPLY_OLD_PASSWORD, S_PASSWORD_TOO_YOUNG, S_CHANGE_AFTER_RESET, S_PASSWORD_IN_HISTORY, S_INSUFFICIENT_PASSWORD_QUALITY, S_PASSWORD_TOO_SHORT, E_PASSWORD_EXPIRED, E_PASSWORD_MOD_NOT_ALLOWED, E_ACCOUNT_LOCKED, E_MUST_SUPPLY_OLD_PASSWORD, E_PASSWORD_TOO_YOUNG, E_CHANGE_AFTER_RESET, E_PASSWORD_IN_HISTORY, E_INSUFFICIENT_PASSWORD_QUALITY, E_PASSWORD_TOO_SHORT⟩ := hp'
  refine MetFree.of_bodySF (plainFor_of_name own_pn1) hisR ?_
  intro p e s m args below meth c s₁ Bd hml0 hP hK
  obtain ⟨rfl, hZ, hh⟩ := hP
  have hx := Bd.exec
  have hby := Bd.bytes
  have hml : c.maxLocals = 1 := hml0
  have hown : s.vm.findClass "com/example/passwarden/passwarden/core/ChangeDecisionRefusedPinLaw" = some m.cls := findClass_of_methodNamed Bd.named
  have X0 : Stand p l e ({ frames := 0, cells := 0, slots := 0, locals := 0 } : Room) s m #[(.int (1 : Int32))] below meth c s₁ [] 0 0 := Stand.of_body Bd
  have e0 : s₁.heap = h0 := by rw [← hh, Bd.state]; rfl
  have N0 := Fr.nil n0
  have pre0 : ∀ t, Steps p.tables e below (s₁.setTop (mkF m 0 #[.val (.int (1 : Int32))] [])) t → Steps p.tables e below (s₁.setTop (entryFrame m #[(.int (1 : Int32))] 1)) t := fun t k => castTop (by first | (simp [entryFrame, mkF, argsToLocals, Value.category]; done) | rfl) k
  obtain ⟨T1, X1, e1, st1⟩ := getS X0 hx hZ hown (host := "") (hw _ (List.mem_of_getElem? (i := 57) rfl)) Via.refl e0 S_ACCOUNT_LOCKED (g := (mkF m 13 #[.val (.int (1 : Int32))] [])) rfl (hb hby d1_13)
  obtain ⟨fs, hr, hrun, hended, hW, hsame⟩ := X1.leave (v := some (.ref a_ACCOUNT_LOCKED)) (fun h => by rw [Bd.returns] at h; cases h)
  refine ⟨_, _, pre0 _ ?_, hrun, hended, _, _, rfl, ?_, ⟨_, rfl⟩, hW, hsame.mono (by decide) (by decide)⟩
  · show Steps p.tables e below (s₁.setTop (mkF m 0 #[.val (.int (1 : Int32))] [])) _
    refine XS.iloadN X0.here hx rfl (hb hby d1_0) rfl ?_
    show Steps p.tables e below (s₁.setTop (mkF m 1 #[.val (.int (1 : Int32))] [(.int (1 : Int32))])) _
    refine XS.ifYes X0.here hx rfl (pc0 := 1) (pc' := 8) rfl (hb hby d1_1) rfl (by decide) (by decide) (by decide) ?_
    show Steps p.tables e below (s₁.setTop (mkF m 8 #[.val (.int (1 : Int32))] [])) _
    refine XS.iloadN X0.here hx rfl (hb hby d1_8) rfl ?_
    show Steps p.tables e below (s₁.setTop (mkF m 9 #[.val (.int (1 : Int32))] [(.int (1 : Int32))])) _
    refine XS.iconst X0.here hx rfl (hb hby d1_9) ?_
    show Steps p.tables e below (s₁.setTop (mkF m 10 #[.val (.int (1 : Int32))] [(.int (1 : Int32)), (.int (1 : Int32))])) _
    refine XS.icmpNo X0.here hx rfl (hb hby d1_10) rfl (by decide) ?_
    show Steps p.tables e below (s₁.setTop (mkF m 13 #[.val (.int (1 : Int32))] [])) _
    refine st1 _ ?_
    show Steps p.tables e below (T1.setTop (mkF m 16 #[.val (.int (1 : Int32))] [(.ref a_ACCOUNT_LOCKED)])) _
    exact retOut X1 hx Bd.returns rfl (Or.inr (Or.inr (Or.inr (Or.inr ⟨rfl, rfl, rfl⟩)))) (hb hby d1_16) hr
  · show own_Q _ h0 n0 _ T1.heap _
    exact ⟨rfl, N0, e1⟩
set_option maxRecDepth 65536 in
set_option maxHeartbeats 40000000 in
theorem own_b1_2 (l : Launch) (Z : State) (a0 : Array Value) (hw : ∀ d ∈ tables_1, d.before a0 Z = true) (ws : List Jvm.Cond) (a_PASSWORD_EXPIRED a_PASSWORD_MOD_NOT_ALLOWED a_ACCOUNT_LOCKED a_MUST_SUPPLY_OLD_PASSWORD a_PASSWORD_TOO_YOUNG a_CHANGE_AFTER_RESET a_PASSWORD_IN_HISTORY a_INSUFFICIENT_PASSWORD_QUALITY a_PASSWORD_TOO_SHORT : Addr)  (h0 : Heap) (n0 : Nat) (hp : own_Pin Z h0 a_PASSWORD_EXPIRED a_PASSWORD_MOD_NOT_ALLOWED a_ACCOUNT_LOCKED a_MUST_SUPPLY_OLD_PASSWORD a_PASSWORD_TOO_YOUNG a_CHANGE_AFTER_RESET a_PASSWORD_IN_HISTORY a_INSUFFICIENT_PASSWORD_QUALITY a_PASSWORD_TOO_SHORT) :
    MetFree l (⟨"com/example/passwarden/passwarden/core/ChangeDecisionRefusedPinLaw", "pick", "(I)Lcom/example/passwarden/passwarden/core/PolicyError;"⟩ : MethodName) (head1 (Jvm.Cond.code (⟨"com/example/passwarden/passwarden/core/ChangeDecisionRefusedPinLaw", "pick", "(I)Lcom/example/passwarden/passwarden/core/PolicyError;"⟩ : MethodName) method_2_code 1 (some (.object "com/example/passwarden/passwarden/core/PolicyError")) :: ws) ({ frames := 0, cells := 0, slots := 0, locals := 0 } : Room)) (fun a U => a = #[(.int (2 : Int32))] ∧ Z.Warmed39 U.vm ∧ U.heap = h0) (fun _ _ _ _ _ => True) (fun _ U o U' => ∃ v L, o = .returned v ∧ own_Q (.ref a_CHANGE_AFTER_RESET) h0 n0 v U'.heap L ∧ FrameEnd U o U' L ({ frames := 0, cells := 0, slots := 0, locals := 0 } : Room).cells ({ frames := 0, cells := 0, slots := 0, locals := 0 } : Room).slots) := by
  have hp' := hp
  obtain ⟨S_PASSWORD_EXPIRED, S_PASSWORD_MOD_NOT_ALLOWED, S_ACCOUNT_LOCKED, S_MUST_SUPPLY_OLD_PASSWORD, S_PASSWORD_TOO_YOUNG, S_CHANGE_AFTER_RESET, S_PASSWORD_IN_HISTORY, S_INSUFFICIENT_PASSWORD_QUALITY, S_PASSWORD_TOO_SHORT, E_PASSWORD_EXPIRED, E_PASSWORD_MOD_NOT_ALLOWED, E_ACCOUNT_LOCKED, E_MUST_SUPPLY_OLD_PASSWORD, E_PASSWORD_TOO_YOUNG, E_CHANGE_AFTER_RESET, E_PASSWORD_IN_HISTORY, E_INSUFFICIENT_PASSWORD_QUALITY, E_PASSWORD_TOO_SHORT⟩ := hp'
  refine MetFree.of_bodySF (plainFor_of_name own_pn1) hisR ?_
  intro p e s m args below meth c s₁ Bd hml0 hP hK
  obtain ⟨rfl, hZ, hh⟩ := hP
  have hx := Bd.exec
  have hby := Bd.bytes
  have hml : c.maxLocals = 1 := hml0
  have hown : s.vm.findClass "com/example/passwarden/passwarden/core/ChangeDecisionRefusedPinLaw" = some m.cls := findClass_of_methodNamed Bd.named
  have X0 : Stand p l e ({ frames := 0, cells := 0, slots := 0, locals := 0 } : Room) s m #[(.int (2 : Int32))] below meth c s₁ [] 0 0 := Stand.of_body Bd
  have e0 : s₁.heap = h0 := by rw [← hh, Bd.state]; rfl
  have N0 := Fr.nil n0
  have pre0 : ∀ t, Steps p.tables e below (s₁.setTop (mkF m 0 #[.val (.int (2 : Int32))] [])) t → Steps p.tables e below (s₁.setTop (entryFrame m #[(.int (2 : Int32))] 1)) t := fun t k => castTop (by first | (simp [entryFrame, mkF, argsToLocals, Value.category]; done) | rfl) k
  obtain ⟨T1, X1, e1, st1⟩ := getS X0 hx hZ hown (host := "") (hw _ (List.mem_of_getElem? (i := 63) rfl)) Via.refl e0 S_CHANGE_AFTER_RESET (g := (mkF m 22 #[.val (.int (2 : Int32))] [])) rfl (hb hby d1_22)
  obtain ⟨fs, hr, hrun, hended, hW, hsame⟩ := X1.leave (v := some (.ref a_CHANGE_AFTER_RESET)) (fun h => by rw [Bd.returns] at h; cases h)
  refine ⟨_, _, pre0 _ ?_, hrun, hended, _, _, rfl, ?_, ⟨_, rfl⟩, hW, hsame.mono (by decide) (by decide)⟩
  · show Steps p.tables e below (s₁.setTop (mkF m 0 #[.val (.int (2 : Int32))] [])) _
    refine XS.iloadN X0.here hx rfl (hb hby d1_0) rfl ?_
    show Steps p.tables e below (s₁.setTop (mkF m 1 #[.val (.int (2 : Int32))] [(.int (2 : Int32))])) _
    refine XS.ifYes X0.here hx rfl (pc0 := 1) (pc' := 8) rfl (hb hby d1_1) rfl (by decide) (by decide) (by decide) ?_
    show Steps p.tables e below (s₁.setTop (mkF m 8 #[.val (.int (2 : Int32))] [])) _
    refine XS.iloadN X0.here hx rfl (hb hby d1_8) rfl ?_
    show Steps p.tables e below (s₁.setTop (mkF m 9 #[.val (.int (2 : Int32))] [(.int (2 : Int32))])) _
    refine XS.iconst X0.here hx rfl (hb hby d1_9) ?_
    show Steps p.tables e below (s₁.setTop (mkF m 10 #[.val (.int (2 : Int32))] [(.int (1 : Int32)), (.int (2 : Int32))])) _
    refine XS.icmpYes X0.here hx rfl (pc0 := 10) (pc' := 17) rfl (hb hby d1_10) rfl (by decide) (by decide) (by decide) ?_
    show Steps p.tables e below (s₁.setTop (mkF m 17 #[.val (.int (2 : Int32))] [])) _
    refine XS.iloadN X0.here hx rfl (hb hby d1_17) rfl ?_
    show Steps p.tables e below (s₁.setTop (mkF m 18 #[.val (.int (2 : Int32))] [(.int (2 : Int32))])) _
    refine XS.iconst X0.here hx rfl (hb hby d1_18) ?_
    show Steps p.tables e below (s₁.setTop (mkF m 19 #[.val (.int (2 : Int32))] [(.int (2 : Int32)), (.int (2 : Int32))])) _
    refine XS.icmpNo X0.here hx rfl (hb hby d1_19) rfl (by decide) ?_
    show Steps p.tables e below (s₁.setTop (mkF m 22 #[.val (.int (2 : Int32))] [])) _
    refine st1 _ ?_
    show Steps p.tables e below (T1.setTop (mkF m 25 #[.val (.int (2 : Int32))] [(.ref a_CHANGE_AFTER_RESET)])) _
    exact retOut X1 hx Bd.returns rfl (Or.inr (Or.inr (Or.inr (Or.inr ⟨rfl, rfl, rfl⟩)))) (hb hby d1_25) hr
  · show own_Q _ h0 n0 _ T1.heap _
    exact ⟨rfl, N0, e1⟩
set_option maxRecDepth 65536 in
set_option maxHeartbeats 40000000 in
theorem own_b1_3 (l : Launch) (Z : State) (a0 : Array Value) (hw : ∀ d ∈ tables_1, d.before a0 Z = true) (ws : List Jvm.Cond) (a_PASSWORD_EXPIRED a_PASSWORD_MOD_NOT_ALLOWED a_ACCOUNT_LOCKED a_MUST_SUPPLY_OLD_PASSWORD a_PASSWORD_TOO_YOUNG a_CHANGE_AFTER_RESET a_PASSWORD_IN_HISTORY a_INSUFFICIENT_PASSWORD_QUALITY a_PASSWORD_TOO_SHORT : Addr)  (h0 : Heap) (n0 : Nat) (hp : own_Pin Z h0 a_PASSWORD_EXPIRED a_PASSWORD_MOD_NOT_ALLOWED a_ACCOUNT_LOCKED a_MUST_SUPPLY_OLD_PASSWORD a_PASSWORD_TOO_YOUNG a_CHANGE_AFTER_RESET a_PASSWORD_IN_HISTORY a_INSUFFICIENT_PASSWORD_QUALITY a_PASSWORD_TOO_SHORT) :
    MetFree l (⟨"com/example/passwarden/passwarden/core/ChangeDecisionRefusedPinLaw", "pick", "(I)Lcom/example/passwarden/passwarden/core/PolicyError;"⟩ : MethodName) (head1 (Jvm.Cond.code (⟨"com/example/passwarden/passwarden/core/ChangeDecisionRefusedPinLaw", "pick", "(I)Lcom/example/passwarden/passwarden/core/PolicyError;"⟩ : MethodName) method_2_code 1 (some (.object "com/example/passwarden/passwarden/core/PolicyError")) :: ws) ({ frames := 0, cells := 0, slots := 0, locals := 0 } : Room)) (fun a U => a = #[(.int (3 : Int32))] ∧ Z.Warmed39 U.vm ∧ U.heap = h0) (fun _ _ _ _ _ => True) (fun _ U o U' => ∃ v L, o = .returned v ∧ own_Q (.ref a_PASSWORD_MOD_NOT_ALLOWED) h0 n0 v U'.heap L ∧ FrameEnd U o U' L ({ frames := 0, cells := 0, slots := 0, locals := 0 } : Room).cells ({ frames := 0, cells := 0, slots := 0, locals := 0 } : Room).slots) := by
  have hp' := hp
  obtain ⟨S_PASSWORD_EXPIRED, S_PASSWORD_MOD_NOT_ALLOWED, S_ACCOUNT_LOCKED, S_MUST_SUPPLY_OLD_PASSWORD, S_PASSWORD_TOO_YOUNG, S_CHANGE_AFTER_RESET, S_PASSWORD_IN_HISTORY, S_INSUFFICIENT_PASSWORD_QUALITY, S_PASSWORD_TOO_SHORT, E_PASSWORD_EXPIRED, E_PASSWORD_MOD_NOT_ALLOWED, E_ACCOUNT_LOCKED, E_MUST_SUPPLY_OLD_PASSWORD, E_PASSWORD_TOO_YOUNG, E_CHANGE_AFTER_RESET, E_PASSWORD_IN_HISTORY, E_INSUFFICIENT_PASSWORD_QUALITY, E_PASSWORD_TOO_SHORT⟩ := hp'
  refine MetFree.of_bodySF (plainFor_of_name own_pn1) hisR ?_
  intro p e s m args below meth c s₁ Bd hml0 hP hK
  obtain ⟨rfl, hZ, hh⟩ := hP
  have hx := Bd.exec
  have hby := Bd.bytes
  have hml : c.maxLocals = 1 := hml0
  have hown : s.vm.findClass "com/example/passwarden/passwarden/core/ChangeDecisionRefusedPinLaw" = some m.cls := findClass_of_methodNamed Bd.named
  have X0 : Stand p l e ({ frames := 0, cells := 0, slots := 0, locals := 0 } : Room) s m #[(.int (3 : Int32))] below meth c s₁ [] 0 0 := Stand.of_body Bd
  have e0 : s₁.heap = h0 := by rw [← hh, Bd.state]; rfl
  have N0 := Fr.nil n0
  have pre0 : ∀ t, Steps p.tables e below (s₁.setTop (mkF m 0 #[.val (.int (3 : Int32))] [])) t → Steps p.tables e below (s₁.setTop (entryFrame m #[(.int (3 : Int32))] 1)) t := fun t k => castTop (by first | (simp [entryFrame, mkF, argsToLocals, Value.category]; done) | rfl) k
  obtain ⟨T1, X1, e1, st1⟩ := getS X0 hx hZ hown (host := "") (hw _ (List.mem_of_getElem? (i := 55) rfl)) Via.refl e0 S_PASSWORD_MOD_NOT_ALLOWED (g := (mkF m 31 #[.val (.int (3 : Int32))] [])) rfl (hb hby d1_31)
  obtain ⟨fs, hr, hrun, hended, hW, hsame⟩ := X1.leave (v := some (.ref a_PASSWORD_MOD_NOT_ALLOWED)) (fun h => by rw [Bd.returns] at h; cases h)
  refine ⟨_, _, pre0 _ ?_, hrun, hended, _, _, rfl, ?_, ⟨_, rfl⟩, hW, hsame.mono (by decide) (by decide)⟩
  · show Steps p.tables e below (s₁.setTop (mkF m 0 #[.val (.int (3 : Int32))] [])) _
    refine XS.iloadN X0.here hx rfl (hb hby d1_0) rfl ?_
    show Steps p.tables e below (s₁.setTop (mkF m 1 #[.val (.int (3 : Int32))] [(.int (3 : Int32))])) _
    refine XS.ifYes X0.here hx rfl (pc0 := 1) (pc' := 8) rfl (hb hby d1_1) rfl (by decide) (by decide) (by decide) ?_
    show Steps p.tables e below (s₁.setTop (mkF m 8 #[.val (.int (3 : Int32))] [])) _
    refine XS.iloadN X0.here hx rfl (hb hby d1_8) rfl ?_
    show Steps p.tables e below (s₁.setTop (mkF m 9 #[.val (.int (3 : Int32))] [(.int (3 : Int32))])) _
    refine XS.iconst X0.here hx rfl (hb hby d1_9) ?_
    show Steps p.tables e below (s₁.setTop (mkF m 10 #[.val (.int (3 : Int32))] [(.int (1 : Int32)), (.int (3 : Int32))])) _
    refine XS.icmpYes X0.here hx rfl (pc0 := 10) (pc' := 17) rfl (hb hby d1_10) rfl (by decide) (by decide) (by decide) ?_
    show Steps p.tables e below (s₁.setTop (mkF m 17 #[.val (.int (3 : Int32))] [])) _
    refine XS.iloadN X0.here hx rfl (hb hby d1_17) rfl ?_
    show Steps p.tables e below (s₁.setTop (mkF m 18 #[.val (.int (3 : Int32))] [(.int (3 : Int32))])) _
    refine XS.iconst X0.here hx rfl (hb hby d1_18) ?_
    show Steps p.tables e below (s₁.setTop (mkF m 19 #[.val (.int (3 : Int32))] [(.int (2 : Int32)), (.int (3 : Int32))])) _
    refine XS.icmpYes X0.here hx rfl (pc0 := 19) (pc' := 26) rfl (hb hby d1_19) rfl (by decide) (by decide) (by decide) ?_
    show Steps p.tables e below (s₁.setTop (mkF m 26 #[.val (.int (3 : Int32))] [])) _
    refine XS.iloadN X0.here hx rfl (hb hby d1_26) rfl ?_
    show Steps p.tables e below (s₁.setTop (mkF m 27 #[.val (.int (3 : Int32))] [(.int (3 : Int32))])) _
    refine XS.iconst X0.here hx rfl (hb hby d1_27) ?_
    show Steps p.tables e below (s₁.setTop (mkF m 28 #[.val (.int (3 : Int32))] [(.int (3 : Int32)), (.int (3 : Int32))])) _
    refine XS.icmpNo X0.here hx rfl (hb hby d1_28) rfl (by decide) ?_
    show Steps p.tables e below (s₁.setTop (mkF m 31 #[.val (.int (3 : Int32))] [])) _
    refine st1 _ ?_
    show Steps p.tables e below (T1.setTop (mkF m 34 #[.val (.int (3 : Int32))] [(.ref a_PASSWORD_MOD_NOT_ALLOWED)])) _
    exact retOut X1 hx Bd.returns rfl (Or.inr (Or.inr (Or.inr (Or.inr ⟨rfl, rfl, rfl⟩)))) (hb hby d1_34) hr
  · show own_Q _ h0 n0 _ T1.heap _
    exact ⟨rfl, N0, e1⟩
set_option maxRecDepth 65536 in
set_option maxHeartbeats 40000000 in
theorem own_b1_4 (l : Launch) (Z : State) (a0 : Array Value) (hw : ∀ d ∈ tables_1, d.before a0 Z = true) (ws : List Jvm.Cond) (a_PASSWORD_EXPIRED a_PASSWORD_MOD_NOT_ALLOWED a_ACCOUNT_LOCKED a_MUST_SUPPLY_OLD_PASSWORD a_PASSWORD_TOO_YOUNG a_CHANGE_AFTER_RESET a_PASSWORD_IN_HISTORY a_INSUFFICIENT_PASSWORD_QUALITY a_PASSWORD_TOO_SHORT : Addr)  (h0 : Heap) (n0 : Nat) (hp : own_Pin Z h0 a_PASSWORD_EXPIRED a_PASSWORD_MOD_NOT_ALLOWED a_ACCOUNT_LOCKED a_MUST_SUPPLY_OLD_PASSWORD a_PASSWORD_TOO_YOUNG a_CHANGE_AFTER_RESET a_PASSWORD_IN_HISTORY a_INSUFFICIENT_PASSWORD_QUALITY a_PASSWORD_TOO_SHORT) :
    MetFree l (⟨"com/example/passwarden/passwarden/core/ChangeDecisionRefusedPinLaw", "pick", "(I)Lcom/example/passwarden/passwarden/core/PolicyError;"⟩ : MethodName) (head1 (Jvm.Cond.code (⟨"com/example/passwarden/passwarden/core/ChangeDecisionRefusedPinLaw", "pick", "(I)Lcom/example/passwarden/passwarden/core/PolicyError;"⟩ : MethodName) method_2_code 1 (some (.object "com/example/passwarden/passwarden/core/PolicyError")) :: ws) ({ frames := 0, cells := 0, slots := 0, locals := 0 } : Room)) (fun a U => a = #[(.int (4 : Int32))] ∧ Z.Warmed39 U.vm ∧ U.heap = h0) (fun _ _ _ _ _ => True) (fun _ U o U' => ∃ v L, o = .returned v ∧ own_Q (.ref a_MUST_SUPPLY_OLD_PASSWORD) h0 n0 v U'.heap L ∧ FrameEnd U o U' L ({ frames := 0, cells := 0, slots := 0, locals := 0 } : Room).cells ({ frames := 0, cells := 0, slots := 0, locals := 0 } : Room).slots) := by
  have hp' := hp
  obtain ⟨S_PASSWORD_EXPIRED, S_PASSWORD_MOD_NOT_ALLOWED, S_ACCOUNT_LOCKED, S_MUST_SUPPLY_OLD_PASSWORD, S_PASSWORD_TOO_YOUNG, S_CHANGE_AFTER_RESET, S_PASSWORD_IN_HISTORY, S_INSUFFICIENT_PASSWORD_QUALITY, S_PASSWORD_TOO_SHORT, E_PASSWORD_EXPIRED, E_PASSWORD_MOD_NOT_ALLOWED, E_ACCOUNT_LOCKED, E_MUST_SUPPLY_OLD_PASSWORD, E_PASSWORD_TOO_YOUNG, E_CHANGE_AFTER_RESET, E_PASSWORD_IN_HISTORY, E_INSUFFICIENT_PASSWORD_QUALITY, E_PASSWORD_TOO_SHORT⟩ := hp'
  refine MetFree.of_bodySF (plainFor_of_name own_pn1) hisR ?_
  intro p e s m args below meth c s₁ Bd hml0 hP hK
  obtain ⟨rfl, hZ, hh⟩ := hP
  have hx := Bd.exec
  have hby := Bd.bytes
  have hml : c.maxLocals = 1 := hml0
  have hown : s.vm.findClass "com/example/passwarden/passwarden/core/ChangeDecisionRefusedPinLaw" = some m.cls := findClass_of_methodNamed Bd.named
  have X0 : Stand p l e ({ frames := 0, cells := 0, slots := 0, locals := 0 } : Room) s m #[(.int (4 : Int32))] below meth c s₁ [] 0 0 := Stand.of_body Bd
  have e0 : s₁.heap = h0 := by rw [← hh, Bd.state]; rfl
  have N0 := Fr.nil n0
  have pre0 : ∀ t, Steps p.tables e below (s₁.setTop (mkF m 0 #[.val (.int (4 : Int32))] [])) t → Steps p.tables e below (s₁.setTop (entryFrame m #[(.int (4 : Int32))] 1)) t := fun t k => castTop (by first | (simp [entryFrame, mkF, argsToLocals, Value.category]; done) | rfl) k
  obtain ⟨T1, X1, e1, st1⟩ := getS X0 hx hZ hown (host := "") (hw _ (List.mem_of_getElem? (i := 59) rfl)) Via.refl e0 S_MUST_SUPPLY_OLD_PASSWORD (g := (mkF m 40 #[.val (.int (4 : Int32))] [])) rfl (hb hby d1_40)
  obtain ⟨fs, hr, hrun, hended, hW, hsame⟩ := X1.leave (v := some (.ref a_MUST_SUPPLY_OLD_PASSWORD)) (fun h => by rw [Bd.returns] at h; cases h)
  refine ⟨_, _, pre0 _ ?_, hrun, hended, _, _, rfl, ?_, ⟨_, rfl⟩, hW, hsame.mono (by decide) (by decide)⟩
  · show Steps p.tables e below (s₁.setTop (mkF m 0 #[.val (.int (4 : Int32))] [])) _
    refine XS.iloadN X0.here hx rfl (hb hby d1_0) rfl ?_
    show Steps p.tables e below (s₁.setTop (mkF m 1 #[.val (.int (4 : Int32))] [(.int (4 : Int32))])) _
    refine XS.ifYes X0.here hx rfl (pc0 := 1) (pc' := 8) rfl (hb hby d1_1) rfl (by decide) (by decide) (by decide) ?_
    show Steps p.tables e below (s₁.setTop (mkF m 8 #[.val (.int (4 : Int32))] [])) _
    refine XS.iloadN X0.here hx rfl (hb hby d1_8) rfl ?_
    show Steps p.tables e below (s₁.setTop (mkF m 9 #[.val (.int (4 : Int32))] [(.int (4 : Int32))])) _
    refine XS.iconst X0.here hx rfl (hb hby d1_9) ?_
    show Steps p.tables e below (s₁.setTop (mkF m 10 #[.val (.int (4 : Int32))] [(.int (1 : Int32)), (.int (4 : Int32))])) _
    refine XS.icmpYes X0.here hx rfl (pc0 := 10) (pc' := 17) rfl (hb hby d1_10) rfl (by decide) (by decide) (by decide) ?_
    show Steps p.tables e below (s₁.setTop (mkF m 17 #[.val (.int (4 : Int32))] [])) _
    refine XS.iloadN X0.here hx rfl (hb hby d1_17) rfl ?_
    show Steps p.tables e below (s₁.setTop (mkF m 18 #[.val (.int (4 : Int32))] [(.int (4 : Int32))])) _
    refine XS.iconst X0.here hx rfl (hb hby d1_18) ?_
    show Steps p.tables e below (s₁.setTop (mkF m 19 #[.val (.int (4 : Int32))] [(.int (2 : Int32)), (.int (4 : Int32))])) _
    refine XS.icmpYes X0.here hx rfl (pc0 := 19) (pc' := 26) rfl (hb hby d1_19) rfl (by decide) (by decide) (by decide) ?_
    show Steps p.tables e below (s₁.setTop (mkF m 26 #[.val (.int (4 : Int32))] [])) _
    refine XS.iloadN X0.here hx rfl (hb hby d1_26) rfl ?_
    show Steps p.tables e below (s₁.setTop (mkF m 27 #[.val (.int (4 : Int32))] [(.int (4 : Int32))])) _
    refine XS.iconst X0.here hx rfl (hb hby d1_27) ?_
    show Steps p.tables e below (s₁.setTop (mkF m 28 #[.val (.int (4 : Int32))] [(.int (3 : Int32)), (.int (4 : Int32))])) _
    refine XS.icmpYes X0.here hx rfl (pc0 := 28) (pc' := 35) rfl (hb hby d1_28) rfl (by decide) (by decide) (by decide) ?_
    show Steps p.tables e below (s₁.setTop (mkF m 35 #[.val (.int (4 : Int32))] [])) _
    refine XS.iloadN X0.here hx rfl (hb hby d1_35) rfl ?_
    show Steps p.tables e below (s₁.setTop (mkF m 36 #[.val (.int (4 : Int32))] [(.int (4 : Int32))])) _
    refine XS.iconst X0.here hx rfl (hb hby d1_36) ?_
    show Steps p.tables e below (s₁.setTop (mkF m 37 #[.val (.int (4 : Int32))] [(.int (4 : Int32)), (.int (4 : Int32))])) _
    refine XS.icmpNo X0.here hx rfl (hb hby d1_37) rfl (by decide) ?_
    show Steps p.tables e below (s₁.setTop (mkF m 40 #[.val (.int (4 : Int32))] [])) _
    refine st1 _ ?_
    show Steps p.tables e below (T1.setTop (mkF m 43 #[.val (.int (4 : Int32))] [(.ref a_MUST_SUPPLY_OLD_PASSWORD)])) _
    exact retOut X1 hx Bd.returns rfl (Or.inr (Or.inr (Or.inr (Or.inr ⟨rfl, rfl, rfl⟩)))) (hb hby d1_43) hr
  · show own_Q _ h0 n0 _ T1.heap _
    exact ⟨rfl, N0, e1⟩
set_option maxRecDepth 65536 in
set_option maxHeartbeats 40000000 in
theorem own_b1_5 (l : Launch) (Z : State) (a0 : Array Value) (hw : ∀ d ∈ tables_1, d.before a0 Z = true) (ws : List Jvm.Cond) (a_PASSWORD_EXPIRED a_PASSWORD_MOD_NOT_ALLOWED a_ACCOUNT_LOCKED a_MUST_SUPPLY_OLD_PASSWORD a_PASSWORD_TOO_YOUNG a_CHANGE_AFTER_RESET a_PASSWORD_IN_HISTORY a_INSUFFICIENT_PASSWORD_QUALITY a_PASSWORD_TOO_SHORT : Addr)  (h0 : Heap) (n0 : Nat) (hp : own_Pin Z h0 a_PASSWORD_EXPIRED a_PASSWORD_MOD_NOT_ALLOWED a_ACCOUNT_LOCKED a_MUST_SUPPLY_OLD_PASSWORD a_PASSWORD_TOO_YOUNG a_CHANGE_AFTER_RESET a_PASSWORD_IN_HISTORY a_INSUFFICIENT_PASSWORD_QUALITY a_PASSWORD_TOO_SHORT) :
    MetFree l (⟨"com/example/passwarden/passwarden/core/ChangeDecisionRefusedPinLaw", "pick", "(I)Lcom/example/passwarden/passwarden/core/PolicyError;"⟩ : MethodName) (head1 (Jvm.Cond.code (⟨"com/example/passwarden/passwarden/core/ChangeDecisionRefusedPinLaw", "pick", "(I)Lcom/example/passwarden/passwarden/core/PolicyError;"⟩ : MethodName) method_2_code 1 (some (.object "com/example/passwarden/passwarden/core/PolicyError")) :: ws) ({ frames := 0, cells := 0, slots := 0, locals := 0 } : Room)) (fun a U => a = #[(.int (5 : Int32))] ∧ Z.Warmed39 U.vm ∧ U.heap = h0) (fun _ _ _ _ _ => True) (fun _ U o U' => ∃ v L, o = .returned v ∧ own_Q (.ref a_INSUFFICIENT_PASSWORD_QUALITY) h0 n0 v U'.heap L ∧ FrameEnd U o U' L ({ frames := 0, cells := 0, slots := 0, locals := 0 } : Room).cells ({ frames := 0, cells := 0, slots := 0, locals := 0 } : Room).slots) := by
  have hp' := hp
  obtain ⟨S_PASSWORD_EXPIRED, S_PASSWORD_MOD_NOT_ALLOWED, S_ACCOUNT_LOCKED, S_MUST_SUPPLY_OLD_PASSWORD, S_PASSWORD_TOO_YOUNG, S_CHANGE_AFTER_RESET, S_PASSWORD_IN_HISTORY, S_INSUFFICIENT_PASSWORD_QUALITY, S_PASSWORD_TOO_SHORT, E_PASSWORD_EXPIRED, E_PASSWORD_MOD_NOT_ALLOWED, E_ACCOUNT_LOCKED, E_MUST_SUPPLY_OLD_PASSWORD, E_PASSWORD_TOO_YOUNG, E_CHANGE_AFTER_RESET, E_PASSWORD_IN_HISTORY, E_INSUFFICIENT_PASSWORD_QUALITY, E_PASSWORD_TOO_SHORT⟩ := hp'
  refine MetFree.of_bodySF (plainFor_of_name own_pn1) hisR ?_
  intro p e s m args below meth c s₁ Bd hml0 hP hK
  obtain ⟨rfl, hZ, hh⟩ := hP
  have hx := Bd.exec
  have hby := Bd.bytes
  have hml : c.maxLocals = 1 := hml0
  have hown : s.vm.findClass "com/example/passwarden/passwarden/core/ChangeDecisionRefusedPinLaw" = some m.cls := findClass_of_methodNamed Bd.named
  have X0 : Stand p l e ({ frames := 0, cells := 0, slots := 0, locals := 0 } : Room) s m #[(.int (5 : Int32))] below meth c s₁ [] 0 0 := Stand.of_body Bd
  have e0 : s₁.heap = h0 := by rw [← hh, Bd.state]; rfl
  have N0 := Fr.nil n0
  have pre0 : ∀ t, Steps p.tables e below (s₁.setTop (mkF m 0 #[.val (.int (5 : Int32))] [])) t → Steps p.tables e below (s₁.setTop (entryFrame m #[(.int (5 : Int32))] 1)) t := fun t k => castTop (by first | (simp [entryFrame, mkF, argsToLocals, Value.category]; done) | rfl) k
  obtain ⟨T1, X1, e1, st1⟩ := getS X0 hx hZ hown (host := "") (hw _ (List.mem_of_getElem? (i := 67) rfl)) Via.refl e0 S_INSUFFICIENT_PASSWORD_QUALITY (g := (mkF m 49 #[.val (.int (5 : Int32))] [])) rfl (hb hby d1_49)
  obtain ⟨fs, hr, hrun, hended, hW, hsame⟩ := X1.leave (v := some (.ref a_INSUFFICIENT_PASSWORD_QUALITY)) (fun h => by rw [Bd.returns] at h; cases h)
  refine ⟨_, _, pre0 _ ?_, hrun, hended, _, _, rfl, ?_, ⟨_, rfl⟩, hW, hsame.mono (by decide) (by decide)⟩
  · show Steps p.tables e below (s₁.setTop (mkF m 0 #[.val (.int (5 : Int32))] [])) _
    refine XS.iloadN X0.here hx rfl (hb hby d1_0) rfl ?_
    show Steps p.tables e below (s₁.setTop (mkF m 1 #[.val (.int (5 : Int32))] [(.int (5 : Int32))])) _
    refine XS.ifYes X0.here hx rfl (pc0 := 1) (pc' := 8) rfl (hb hby d1_1) rfl (by decide) (by decide) (by decide) ?_
    show Steps p.tables e below (s₁.setTop (mkF m 8 #[.val (.int (5 : Int32))] [])) _
    refine XS.iloadN X0.here hx rfl (hb hby d1_8) rfl ?_
    show Steps p.tables e below (s₁.setTop (mkF m 9 #[.val (.int (5 : Int32))] [(.int (5 : Int32))])) _
    refine XS.iconst X0.here hx rfl (hb hby d1_9) ?_
    show Steps p.tables e below (s₁.setTop (mkF m 10 #[.val (.int (5 : Int32))] [(.int (1 : Int32)), (.int (5 : Int32))])) _
    refine XS.icmpYes X0.here hx rfl (pc0 := 10) (pc' := 17) rfl (hb hby d1_10) rfl (by decide) (by decide) (by decide) ?_
    show Steps p.tables e below (s₁.setTop (mkF m 17 #[.val (.int (5 : Int32))] [])) _
    refine XS.iloadN X0.here hx rfl (hb hby d1_17) rfl ?_
    show Steps p.tables e below (s₁.setTop (mkF m 18 #[.val (.int (5 : Int32))] [(.int (5 : Int32))])) _
    refine XS.iconst X0.here hx rfl (hb hby d1_18) ?_
    show Steps p.tables e below (s₁.setTop (mkF m 19 #[.val (.int (5 : Int32))] [(.int (2 : Int32)), (.int (5 : Int32))])) _
    refine XS.icmpYes X0.here hx rfl (pc0 := 19) (pc' := 26) rfl (hb hby d1_19) rfl (by decide) (by decide) (by decide) ?_
    show Steps p.tables e below (s₁.setTop (mkF m 26 #[.val (.int (5 : Int32))] [])) _
    refine XS.iloadN X0.here hx rfl (hb hby d1_26) rfl ?_
    show Steps p.tables e below (s₁.setTop (mkF m 27 #[.val (.int (5 : Int32))] [(.int (5 : Int32))])) _
    refine XS.iconst X0.here hx rfl (hb hby d1_27) ?_
    show Steps p.tables e below (s₁.setTop (mkF m 28 #[.val (.int (5 : Int32))] [(.int (3 : Int32)), (.int (5 : Int32))])) _
    refine XS.icmpYes X0.here hx rfl (pc0 := 28) (pc' := 35) rfl (hb hby d1_28) rfl (by decide) (by decide) (by decide) ?_
    show Steps p.tables e below (s₁.setTop (mkF m 35 #[.val (.int (5 : Int32))] [])) _
    refine XS.iloadN X0.here hx rfl (hb hby d1_35) rfl ?_
    show Steps p.tables e below (s₁.setTop (mkF m 36 #[.val (.int (5 : Int32))] [(.int (5 : Int32))])) _
    refine XS.iconst X0.here hx rfl (hb hby d1_36) ?_
    show Steps p.tables e below (s₁.setTop (mkF m 37 #[.val (.int (5 : Int32))] [(.int (4 : Int32)), (.int (5 : Int32))])) _
    refine XS.icmpYes X0.here hx rfl (pc0 := 37) (pc' := 44) rfl (hb hby d1_37) rfl (by decide) (by decide) (by decide) ?_
    show Steps p.tables e below (s₁.setTop (mkF m 44 #[.val (.int (5 : Int32))] [])) _
    refine XS.iloadN X0.here hx rfl (hb hby d1_44) rfl ?_
    show Steps p.tables e below (s₁.setTop (mkF m 45 #[.val (.int (5 : Int32))] [(.int (5 : Int32))])) _
    refine XS.iconst X0.here hx rfl (hb hby d1_45) ?_
    show Steps p.tables e below (s₁.setTop (mkF m 46 #[.val (.int (5 : Int32))] [(.int (5 : Int32)), (.int (5 : Int32))])) _
    refine XS.icmpNo X0.here hx rfl (hb hby d1_46) rfl (by decide) ?_
    show Steps p.tables e below (s₁.setTop (mkF m 49 #[.val (.int (5 : Int32))] [])) _
    refine st1 _ ?_
    show Steps p.tables e below (T1.setTop (mkF m 52 #[.val (.int (5 : Int32))] [(.ref a_INSUFFICIENT_PASSWORD_QUALITY)])) _
    exact retOut X1 hx Bd.returns rfl (Or.inr (Or.inr (Or.inr (Or.inr ⟨rfl, rfl, rfl⟩)))) (hb hby d1_52) hr
  · show own_Q _ h0 n0 _ T1.heap _
    exact ⟨rfl, N0, e1⟩
set_option maxRecDepth 65536 in
set_option maxHeartbeats 40000000 in
theorem own_b1_6 (l : Launch) (Z : State) (a0 : Array Value) (hw : ∀ d ∈ tables_1, d.before a0 Z = true) (ws : List Jvm.Cond) (a_PASSWORD_EXPIRED a_PASSWORD_MOD_NOT_ALLOWED a_ACCOUNT_LOCKED a_MUST_SUPPLY_OLD_PASSWORD a_PASSWORD_TOO_YOUNG a_CHANGE_AFTER_RESET a_PASSWORD_IN_HISTORY a_INSUFFICIENT_PASSWORD_QUALITY a_PASSWORD_TOO_SHORT : Addr)  (h0 : Heap) (n0 : Nat) (hp : own_Pin Z h0 a_PASSWORD_EXPIRED a_PASSWORD_MOD_NOT_ALLOWED a_ACCOUNT_LOCKED a_MUST_SUPPLY_OLD_PASSWORD a_PASSWORD_TOO_YOUNG a_CHANGE_AFTER_RESET a_PASSWORD_IN_HISTORY a_INSUFFICIENT_PASSWORD_QUALITY a_PASSWORD_TOO_SHORT) :
    MetFree l (⟨"com/example/passwarden/passwarden/core/ChangeDecisionRefusedPinLaw", "pick", "(I)Lcom/example/passwarden/passwarden/core/PolicyError;"⟩ : MethodName) (head1 (Jvm.Cond.code (⟨"com/example/passwarden/passwarden/core/ChangeDecisionRefusedPinLaw", "pick", "(I)Lcom/example/passwarden/passwarden/core/PolicyError;"⟩ : MethodName) method_2_code 1 (some (.object "com/example/passwarden/passwarden/core/PolicyError")) :: ws) ({ frames := 0, cells := 0, slots := 0, locals := 0 } : Room)) (fun a U => a = #[(.int (6 : Int32))] ∧ Z.Warmed39 U.vm ∧ U.heap = h0) (fun _ _ _ _ _ => True) (fun _ U o U' => ∃ v L, o = .returned v ∧ own_Q (.ref a_PASSWORD_TOO_SHORT) h0 n0 v U'.heap L ∧ FrameEnd U o U' L ({ frames := 0, cells := 0, slots := 0, locals := 0 } : Room).cells ({ frames := 0, cells := 0, slots := 0, locals := 0 } : Room).slots) := by
  have hp' := hp
  obtain ⟨S_PASSWORD_EXPIRED, S_PASSWORD_MOD_NOT_ALLOWED, S_ACCOUNT_LOCKED, S_MUST_SUPPLY_OLD_PASSWORD, S_PASSWORD_TOO_YOUNG, S_CHANGE_AFTER_RESET, S_PASSWORD_IN_HISTORY, S_INSUFFICIENT_PASSWORD_QUALITY, S_PASSWORD_TOO_SHORT, E_PASSWORD_EXPIRED, E_PASSWORD_MOD_NOT_ALLOWED, E_ACCOUNT_LOCKED, E_MUST_SUPPLY_OLD_PASSWORD, E_PASSWORD_TOO_YOUNG, E_CHANGE_AFTER_RESET, E_PASSWORD_IN_HISTORY, E_INSUFFICIENT_PASSWORD_QUALITY, E_PASSWORD_TOO_SHORT⟩ := hp'
  refine MetFree.of_bodySF (plainFor_of_name own_pn1) hisR ?_
  intro p e s m args below meth c s₁ Bd hml0 hP hK
  obtain ⟨rfl, hZ, hh⟩ := hP
  have hx := Bd.exec
  have hby := Bd.bytes
  have hml : c.maxLocals = 1 := hml0
  have hown : s.vm.findClass "com/example/passwarden/passwarden/core/ChangeDecisionRefusedPinLaw" = some m.cls := findClass_of_methodNamed Bd.named
  have X0 : Stand p l e ({ frames := 0, cells := 0, slots := 0, locals := 0 } : Room) s m #[(.int (6 : Int32))] below meth c s₁ [] 0 0 := Stand.of_body Bd
  have e0 : s₁.heap = h0 := by rw [← hh, Bd.state]; rfl
  have N0 := Fr.nil n0
  have pre0 : ∀ t, Steps p.tables e below (s₁.setTop (mkF m 0 #[.val (.int (6 : Int32))] [])) t → Steps p.tables e below (s₁.setTop (entryFrame m #[(.int (6 : Int32))] 1)) t := fun t k => castTop (by first | (simp [entryFrame, mkF, argsToLocals, Value.category]; done) | rfl) k
  obtain ⟨T1, X1, e1, st1⟩ := getS X0 hx hZ hown (host := "") (hw _ (List.mem_of_getElem? (i := 69) rfl)) Via.refl e0 S_PASSWORD_TOO_SHORT (g := (mkF m 59 #[.val (.int (6 : Int32))] [])) rfl (hb hby d1_59)
  obtain ⟨fs, hr, hrun, hended, hW, hsame⟩ := X1.leave (v := some (.ref a_PASSWORD_TOO_SHORT)) (fun h => by rw [Bd.returns] at h; cases h)
  refine ⟨_, _, pre0 _ ?_, hrun, hended, _, _, rfl, ?_, ⟨_, rfl⟩, hW, hsame.mono (by decide) (by decide)⟩
  · show Steps p.tables e below (s₁.setTop (mkF m 0 #[.val (.int (6 : Int32))] [])) _
    refine XS.iloadN X0.here hx rfl (hb hby d1_0) rfl ?_
    show Steps p.tables e below (s₁.setTop (mkF m 1 #[.val (.int (6 : Int32))] [(.int (6 : Int32))])) _
    refine XS.ifYes X0.here hx rfl (pc0 := 1) (pc' := 8) rfl (hb hby d1_1) rfl (by decide) (by decide) (by decide) ?_
    show Steps p.tables e below (s₁.setTop (mkF m 8 #[.val (.int (6 : Int32))] [])) _
    refine XS.iloadN X0.here hx rfl (hb hby d1_8) rfl ?_
    show Steps p.tables e below (s₁.setTop (mkF m 9 #[.val (.int (6 : Int32))] [(.int (6 : Int32))])) _
    refine XS.iconst X0.here hx rfl (hb hby d1_9) ?_
    show Steps p.tables e below (s₁.setTop (mkF m 10 #[.val (.int (6 : Int32))] [(.int (1 : Int32)), (.int (6 : Int32))])) _
    refine XS.icmpYes X0.here hx rfl (pc0 := 10) (pc' := 17) rfl (hb hby d1_10) rfl (by decide) (by decide) (by decide) ?_
    show Steps p.tables e below (s₁.setTop (mkF m 17 #[.val (.int (6 : Int32))] [])) _
    refine XS.iloadN X0.here hx rfl (hb hby d1_17) rfl ?_
    show Steps p.tables e below (s₁.setTop (mkF m 18 #[.val (.int (6 : Int32))] [(.int (6 : Int32))])) _
    refine XS.iconst X0.here hx rfl (hb hby d1_18) ?_
    show Steps p.tables e below (s₁.setTop (mkF m 19 #[.val (.int (6 : Int32))] [(.int (2 : Int32)), (.int (6 : Int32))])) _
    refine XS.icmpYes X0.here hx rfl (pc0 := 19) (pc' := 26) rfl (hb hby d1_19) rfl (by decide) (by decide) (by decide) ?_
    show Steps p.tables e below (s₁.setTop (mkF m 26 #[.val (.int (6 : Int32))] [])) _
    refine XS.iloadN X0.here hx rfl (hb hby d1_26) rfl ?_
    show Steps p.tables e below (s₁.setTop (mkF m 27 #[.val (.int (6 : Int32))] [(.int (6 : Int32))])) _
    refine XS.iconst X0.here hx rfl (hb hby d1_27) ?_
    show Steps p.tables e below (s₁.setTop (mkF m 28 #[.val (.int (6 : Int32))] [(.int (3 : Int32)), (.int (6 : Int32))])) _
    refine XS.icmpYes X0.here hx rfl (pc0 := 28) (pc' := 35) rfl (hb hby d1_28) rfl (by decide) (by decide) (by decide) ?_
    show Steps p.tables e below (s₁.setTop (mkF m 35 #[.val (.int (6 : Int32))] [])) _
    refine XS.iloadN X0.here hx rfl (hb hby d1_35) rfl ?_
    show Steps p.tables e below (s₁.setTop (mkF m 36 #[.val (.int (6 : Int32))] [(.int (6 : Int32))])) _
    refine XS.iconst X0.here hx rfl (hb hby d1_36) ?_
    show Steps p.tables e below (s₁.setTop (mkF m 37 #[.val (.int (6 : Int32))] [(.int (4 : Int32)), (.int (6 : Int32))])) _
    refine XS.icmpYes X0.here hx rfl (pc0 := 37) (pc' := 44) rfl (hb hby d1_37) rfl (by decide) (by decide) (by decide) ?_
    show Steps p.tables e below (s₁.setTop (mkF m 44 #[.val (.int (6 : Int32))] [])) _
    refine XS.iloadN X0.here hx rfl (hb hby d1_44) rfl ?_
    show Steps p.tables e below (s₁.setTop (mkF m 45 #[.val (.int (6 : Int32))] [(.int (6 : Int32))])) _
    refine XS.iconst X0.here hx rfl (hb hby d1_45) ?_
    show Steps p.tables e below (s₁.setTop (mkF m 46 #[.val (.int (6 : Int32))] [(.int (5 : Int32)), (.int (6 : Int32))])) _
    refine XS.icmpYes X0.here hx rfl (pc0 := 46) (pc' := 53) rfl (hb hby d1_46) rfl (by decide) (by decide) (by decide) ?_
    show Steps p.tables e below (s₁.setTop (mkF m 53 #[.val (.int (6 : Int32))] [])) _
    refine XS.iloadN X0.here hx rfl (hb hby d1_53) rfl ?_
    show Steps p.tables e below (s₁.setTop (mkF m 54 #[.val (.int (6 : Int32))] [(.int (6 : Int32))])) _
    refine XS.bipush X0.here hx rfl (hb hby d1_54) ?_
    show Steps p.tables e below (s₁.setTop (mkF m 56 #[.val (.int (6 : Int32))] [(.int (6 : Int32)), (.int (6 : Int32))])) _
    refine XS.icmpNo X0.here hx rfl (hb hby d1_56) rfl (by decide) ?_
    show Steps p.tables e below (s₁.setTop (mkF m 59 #[.val (.int (6 : Int32))] [])) _
    refine st1 _ ?_
    show Steps p.tables e below (T1.setTop (mkF m 62 #[.val (.int (6 : Int32))] [(.ref a_PASSWORD_TOO_SHORT)])) _
    exact retOut X1 hx Bd.returns rfl (Or.inr (Or.inr (Or.inr (Or.inr ⟨rfl, rfl, rfl⟩)))) (hb hby d1_62) hr
  · show own_Q _ h0 n0 _ T1.heap _
    exact ⟨rfl, N0, e1⟩
set_option maxRecDepth 65536 in
set_option maxHeartbeats 40000000 in
theorem own_b1_7 (l : Launch) (Z : State) (a0 : Array Value) (hw : ∀ d ∈ tables_1, d.before a0 Z = true) (ws : List Jvm.Cond) (a_PASSWORD_EXPIRED a_PASSWORD_MOD_NOT_ALLOWED a_ACCOUNT_LOCKED a_MUST_SUPPLY_OLD_PASSWORD a_PASSWORD_TOO_YOUNG a_CHANGE_AFTER_RESET a_PASSWORD_IN_HISTORY a_INSUFFICIENT_PASSWORD_QUALITY a_PASSWORD_TOO_SHORT : Addr)  (h0 : Heap) (n0 : Nat) (hp : own_Pin Z h0 a_PASSWORD_EXPIRED a_PASSWORD_MOD_NOT_ALLOWED a_ACCOUNT_LOCKED a_MUST_SUPPLY_OLD_PASSWORD a_PASSWORD_TOO_YOUNG a_CHANGE_AFTER_RESET a_PASSWORD_IN_HISTORY a_INSUFFICIENT_PASSWORD_QUALITY a_PASSWORD_TOO_SHORT) :
    MetFree l (⟨"com/example/passwarden/passwarden/core/ChangeDecisionRefusedPinLaw", "pick", "(I)Lcom/example/passwarden/passwarden/core/PolicyError;"⟩ : MethodName) (head1 (Jvm.Cond.code (⟨"com/example/passwarden/passwarden/core/ChangeDecisionRefusedPinLaw", "pick", "(I)Lcom/example/passwarden/passwarden/core/PolicyError;"⟩ : MethodName) method_2_code 1 (some (.object "com/example/passwarden/passwarden/core/PolicyError")) :: ws) ({ frames := 0, cells := 0, slots := 0, locals := 0 } : Room)) (fun a U => a = #[(.int (7 : Int32))] ∧ Z.Warmed39 U.vm ∧ U.heap = h0) (fun _ _ _ _ _ => True) (fun _ U o U' => ∃ v L, o = .returned v ∧ own_Q (.ref a_PASSWORD_TOO_YOUNG) h0 n0 v U'.heap L ∧ FrameEnd U o U' L ({ frames := 0, cells := 0, slots := 0, locals := 0 } : Room).cells ({ frames := 0, cells := 0, slots := 0, locals := 0 } : Room).slots) := by
  have hp' := hp
  obtain ⟨S_PASSWORD_EXPIRED, S_PASSWORD_MOD_NOT_ALLOWED, S_ACCOUNT_LOCKED, S_MUST_SUPPLY_OLD_PASSWORD, S_PASSWORD_TOO_YOUNG, S_CHANGE_AFTER_RESET, S_PASSWORD_IN_HISTORY, S_INSUFFICIENT_PASSWORD_QUALITY, S_PASSWORD_TOO_SHORT, E_PASSWORD_EXPIRED, E_PASSWORD_MOD_NOT_ALLOWED, E_ACCOUNT_LOCKED, E_MUST_SUPPLY_OLD_PASSWORD, E_PASSWORD_TOO_YOUNG, E_CHANGE_AFTER_RESET, E_PASSWORD_IN_HISTORY, E_INSUFFICIENT_PASSWORD_QUALITY, E_PASSWORD_TOO_SHORT⟩ := hp'
  refine MetFree.of_bodySF (plainFor_of_name own_pn1) hisR ?_
  intro p e s m args below meth c s₁ Bd hml0 hP hK
  obtain ⟨rfl, hZ, hh⟩ := hP
  have hx := Bd.exec
  have hby := Bd.bytes
  have hml : c.maxLocals = 1 := hml0
  have hown : s.vm.findClass "com/example/passwarden/passwarden/core/ChangeDecisionRefusedPinLaw" = some m.cls := findClass_of_methodNamed Bd.named
  have X0 : Stand p l e ({ frames := 0, cells := 0, slots := 0, locals := 0 } : Room) s m #[(.int (7 : Int32))] below meth c s₁ [] 0 0 := Stand.of_body Bd
  have e0 : s₁.heap = h0 := by rw [← hh, Bd.state]; rfl
  have N0 := Fr.nil n0
  have pre0 : ∀ t, Steps p.tables e below (s₁.setTop (mkF m 0 #[.val (.int (7 : Int32))] [])) t → Steps p.tables e below (s₁.setTop (entryFrame m #[(.int (7 : Int32))] 1)) t := fun t k => castTop (by first | (simp [entryFrame, mkF, argsToLocals, Value.category]; done) | rfl) k
  obtain ⟨T1, X1, e1, st1⟩ := getS X0 hx hZ hown (host := "") (hw _ (List.mem_of_getElem? (i := 61) rfl)) Via.refl e0 S_PASSWORD_TOO_YOUNG (g := (mkF m 69 #[.val (.int (7 : Int32))] [])) rfl (hb hby d1_69)
  obtain ⟨fs, hr, hrun, hended, hW, hsame⟩ := X1.leave (v := some (.ref a_PASSWORD_TOO_YOUNG)) (fun h => by rw [Bd.returns] at h; cases h)
  refine ⟨_, _, pre0 _ ?_, hrun, hended, _, _, rfl, ?_, ⟨_, rfl⟩, hW, hsame.mono (by decide) (by decide)⟩
  · show Steps p.tables e below (s₁.setTop (mkF m 0 #[.val (.int (7 : Int32))] [])) _
    refine XS.iloadN X0.here hx rfl (hb hby d1_0) rfl ?_
    show Steps p.tables e below (s₁.setTop (mkF m 1 #[.val (.int (7 : Int32))] [(.int (7 : Int32))])) _
    refine XS.ifYes X0.here hx rfl (pc0 := 1) (pc' := 8) rfl (hb hby d1_1) rfl (by decide) (by decide) (by decide) ?_
    show Steps p.tables e below (s₁.setTop (mkF m 8 #[.val (.int (7 : Int32))] [])) _
    refine XS.iloadN X0.here hx rfl (hb hby d1_8) rfl ?_
    show Steps p.tables e below (s₁.setTop (mkF m 9 #[.val (.int (7 : Int32))] [(.int (7 : Int32))])) _
    refine XS.iconst X0.here hx rfl (hb hby d1_9) ?_
    show Steps p.tables e below (s₁.setTop (mkF m 10 #[.val (.int (7 : Int32))] [(.int (1 : Int32)), (.int (7 : Int32))])) _
    refine XS.icmpYes X0.here hx rfl (pc0 := 10) (pc' := 17) rfl (hb hby d1_10) rfl (by decide) (by decide) (by decide) ?_
    show Steps p.tables e below (s₁.setTop (mkF m 17 #[.val (.int (7 : Int32))] [])) _
    refine XS.iloadN X0.here hx rfl (hb hby d1_17) rfl ?_
    show Steps p.tables e below (s₁.setTop (mkF m 18 #[.val (.int (7 : Int32))] [(.int (7 : Int32))])) _
    refine XS.iconst X0.here hx rfl (hb hby d1_18) ?_
    show Steps p.tables e below (s₁.setTop (mkF m 19 #[.val (.int (7 : Int32))] [(.int (2 : Int32)), (.int (7 : Int32))])) _
    refine XS.icmpYes X0.here hx rfl (pc0 := 19) (pc' := 26) rfl (hb hby d1_19) rfl (by decide) (by decide) (by decide) ?_
    show Steps p.tables e below (s₁.setTop (mkF m 26 #[.val (.int (7 : Int32))] [])) _
    refine XS.iloadN X0.here hx rfl (hb hby d1_26) rfl ?_
    show Steps p.tables e below (s₁.setTop (mkF m 27 #[.val (.int (7 : Int32))] [(.int (7 : Int32))])) _
    refine XS.iconst X0.here hx rfl (hb hby d1_27) ?_
    show Steps p.tables e below (s₁.setTop (mkF m 28 #[.val (.int (7 : Int32))] [(.int (3 : Int32)), (.int (7 : Int32))])) _
    refine XS.icmpYes X0.here hx rfl (pc0 := 28) (pc' := 35) rfl (hb hby d1_28) rfl (by decide) (by decide) (by decide) ?_
    show Steps p.tables e below (s₁.setTop (mkF m 35 #[.val (.int (7 : Int32))] [])) _
    refine XS.iloadN X0.here hx rfl (hb hby d1_35) rfl ?_
    show Steps p.tables e below (s₁.setTop (mkF m 36 #[.val (.int (7 : Int32))] [(.int (7 : Int32))])) _
    refine XS.iconst X0.here hx rfl (hb hby d1_36) ?_
    show Steps p.tables e below (s₁.setTop (mkF m 37 #[.val (.int (7 : Int32))] [(.int (4 : Int32)), (.int (7 : Int32))])) _
    refine XS.icmpYes X0.here hx rfl (pc0 := 37) (pc' := 44) rfl (hb hby d1_37) rfl (by decide) (by decide) (by decide) ?_
    show Steps p.tables e below (s₁.setTop (mkF m 44 #[.val (.int (7 : Int32))] [])) _
    refine XS.iloadN X0.here hx rfl (hb hby d1_44) rfl ?_
    show Steps p.tables e below (s₁.setTop (mkF m 45 #[.val (.int (7 : Int32))] [(.int (7 : Int32))])) _
    refine XS.iconst X0.here hx rfl (hb hby d1_45) ?_
    show Steps p.tables e below (s₁.setTop (mkF m 46 #[.val (.int (7 : Int32))] [(.int (5 : Int32)), (.int (7 : Int32))])) _
    refine XS.icmpYes X0.here hx rfl (pc0 := 46) (pc' := 53) rfl (hb hby d1_46) rfl (by decide) (by decide) (by decide) ?_
    show Steps p.tables e below (s₁.setTop (mkF m 53 #[.val (.int (7 : Int32))] [])) _
    refine XS.iloadN X0.here hx rfl (hb hby d1_53) rfl ?_
    show Steps p.tables e below (s₁.setTop (mkF m 54 #[.val (.int (7 : Int32))] [(.int (7 : Int32))])) _
    refine XS.bipush X0.here hx rfl (hb hby d1_54) ?_
    show Steps p.tables e below (s₁.setTop (mkF m 56 #[.val (.int (7 : Int32))] [(.int (6 : Int32)), (.int (7 : Int32))])) _
    refine XS.icmpYes X0.here hx rfl (pc0 := 56) (pc' := 63) rfl (hb hby d1_56) rfl (by decide) (by decide) (by decide) ?_
    show Steps p.tables e below (s₁.setTop (mkF m 63 #[.val (.int (7 : Int32))] [])) _
    refine XS.iloadN X0.here hx rfl (hb hby d1_63) rfl ?_
    show Steps p.tables e below (s₁.setTop (mkF m 64 #[.val (.int (7 : Int32))] [(.int (7 : Int32))])) _
    refine XS.bipush X0.here hx rfl (hb hby d1_64) ?_
    show Steps p.tables e below (s₁.setTop (mkF m 66 #[.val (.int (7 : Int32))] [(.int (7 : Int32)), (.int (7 : Int32))])) _
    refine XS.icmpNo X0.here hx rfl (hb hby d1_66) rfl (by decide) ?_
    show Steps p.tables e below (s₁.setTop (mkF m 69 #[.val (.int (7 : Int32))] [])) _
    refine st1 _ ?_
    show Steps p.tables e below (T1.setTop (mkF m 72 #[.val (.int (7 : Int32))] [(.ref a_PASSWORD_TOO_YOUNG)])) _
    exact retOut X1 hx Bd.returns rfl (Or.inr (Or.inr (Or.inr (Or.inr ⟨rfl, rfl, rfl⟩)))) (hb hby d1_72) hr
  · show own_Q _ h0 n0 _ T1.heap _
    exact ⟨rfl, N0, e1⟩
set_option maxRecDepth 65536 in
set_option maxHeartbeats 40000000 in
theorem own_b1_8 (l : Launch) (Z : State) (a0 : Array Value) (hw : ∀ d ∈ tables_1, d.before a0 Z = true) (ws : List Jvm.Cond) (a_PASSWORD_EXPIRED a_PASSWORD_MOD_NOT_ALLOWED a_ACCOUNT_LOCKED a_MUST_SUPPLY_OLD_PASSWORD a_PASSWORD_TOO_YOUNG a_CHANGE_AFTER_RESET a_PASSWORD_IN_HISTORY a_INSUFFICIENT_PASSWORD_QUALITY a_PASSWORD_TOO_SHORT : Addr)  (h0 : Heap) (n0 : Nat) (hp : own_Pin Z h0 a_PASSWORD_EXPIRED a_PASSWORD_MOD_NOT_ALLOWED a_ACCOUNT_LOCKED a_MUST_SUPPLY_OLD_PASSWORD a_PASSWORD_TOO_YOUNG a_CHANGE_AFTER_RESET a_PASSWORD_IN_HISTORY a_INSUFFICIENT_PASSWORD_QUALITY a_PASSWORD_TOO_SHORT) :
    MetFree l (⟨"com/example/passwarden/passwarden/core/ChangeDecisionRefusedPinLaw", "pick", "(I)Lcom/example/passwarden/passwarden/core/PolicyError;"⟩ : MethodName) (head1 (Jvm.Cond.code (⟨"com/example/passwarden/passwarden/core/ChangeDecisionRefusedPinLaw", "pick", "(I)Lcom/example/passwarden/passwarden/core/PolicyError;"⟩ : MethodName) method_2_code 1 (some (.object "com/example/passwarden/passwarden/core/PolicyError")) :: ws) ({ frames := 0, cells := 0, slots := 0, locals := 0 } : Room)) (fun a U => a = #[(.int (8 : Int32))] ∧ Z.Warmed39 U.vm ∧ U.heap = h0) (fun _ _ _ _ _ => True) (fun _ U o U' => ∃ v L, o = .returned v ∧ own_Q (.ref a_PASSWORD_IN_HISTORY) h0 n0 v U'.heap L ∧ FrameEnd U o U' L ({ frames := 0, cells := 0, slots := 0, locals := 0 } : Room).cells ({ frames := 0, cells := 0, slots := 0, locals := 0 } : Room).slots) := by
  have hp' := hp
  obtain ⟨S_PASSWORD_EXPIRED, S_PASSWORD_MOD_NOT_ALLOWED, S_ACCOUNT_LOCKED, S_MUST_SUPPLY_OLD_PASSWORD, S_PASSWORD_TOO_YOUNG, S_CHANGE_AFTER_RESET, S_PASSWORD_IN_HISTORY, S_INSUFFICIENT_PASSWORD_QUALITY, S_PASSWORD_TOO_SHORT, E_PASSWORD_EXPIRED, E_PASSWORD_MOD_NOT_ALLOWED, E_ACCOUNT_LOCKED, E_MUST_SUPPLY_OLD_PASSWORD, E_PASSWORD_TOO_YOUNG, E_CHANGE_AFTER_RESET, E_PASSWORD_IN_HISTORY, E_INSUFFICIENT_PASSWORD_QUALITY, E_PASSWORD_TOO_SHORT⟩ := hp'
  refine MetFree.of_bodySF (plainFor_of_name own_pn1) hisR ?_
  intro p e s m args below meth c s₁ Bd hml0 hP hK
  obtain ⟨rfl, hZ, hh⟩ := hP
  have hx := Bd.exec
  have hby := Bd.bytes
  have hml : c.maxLocals = 1 := hml0
  have hown : s.vm.findClass "com/example/passwarden/passwarden/core/ChangeDecisionRefusedPinLaw" = some m.cls := findClass_of_methodNamed Bd.named
  have X0 : Stand p l e ({ frames := 0, cells := 0, slots := 0, locals := 0 } : Room) s m #[(.int (8 : Int32))] below meth c s₁ [] 0 0 := Stand.of_body Bd
  have e0 : s₁.heap = h0 := by rw [← hh, Bd.state]; rfl
  have N0 := Fr.nil n0
  have pre0 : ∀ t, Steps p.tables e below (s₁.setTop (mkF m 0 #[.val (.int (8 : Int32))] [])) t → Steps p.tables e below (s₁.setTop (entryFrame m #[(.int (8 : Int32))] 1)) t := fun t k => castTop (by first | (simp [entryFrame, mkF, argsToLocals, Value.category]; done) | rfl) k
  obtain ⟨T1, X1, e1, st1⟩ := getS X0 hx hZ hown (host := "") (hw _ (List.mem_of_getElem? (i := 65) rfl)) Via.refl e0 S_PASSWORD_IN_HISTORY (g := (mkF m 79 #[.val (.int (8 : Int32))] [])) rfl (hb hby d1_79)
  obtain ⟨fs, hr, hrun, hended, hW, hsame⟩ := X1.leave (v := some (.ref a_PASSWORD_IN_HISTORY)) (fun h => by rw [Bd.returns] at h; cases h)
  refine ⟨_, _, pre0 _ ?_, hrun, hended, _, _, rfl, ?_, ⟨_, rfl⟩, hW, hsame.mono (by decide) (by decide)⟩
  · show Steps p.tables e below (s₁.setTop (mkF m 0 #[.val (.int (8 : Int32))] [])) _
    refine XS.iloadN X0.here hx rfl (hb hby d1_0) rfl ?_
    show Steps p.tables e below (s₁.setTop (mkF m 1 #[.val (.int (8 : Int32))] [(.int (8 : Int32))])) _
    refine XS.ifYes X0.here hx rfl (pc0 := 1) (pc' := 8) rfl (hb hby d1_1) rfl (by decide) (by decide) (by decide) ?_
    show Steps p.tables e below (s₁.setTop (mkF m 8 #[.val (.int (8 : Int32))] [])) _
    refine XS.iloadN X0.here hx rfl (hb hby d1_8) rfl ?_
    show Steps p.tables e below (s₁.setTop (mkF m 9 #[.val (.int (8 : Int32))] [(.int (8 : Int32))])) _
    refine XS.iconst X0.here hx rfl (hb hby d1_9) ?_
    show Steps p.tables e below (s₁.setTop (mkF m 10 #[.val (.int (8 : Int32))] [(.int (1 : Int32)), (.int (8 : Int32))])) _
    refine XS.icmpYes X0.here hx rfl (pc0 := 10) (pc' := 17) rfl (hb hby d1_10) rfl (by decide) (by decide) (by decide) ?_
    show Steps p.tables e below (s₁.setTop (mkF m 17 #[.val (.int (8 : Int32))] [])) _
    refine XS.iloadN X0.here hx rfl (hb hby d1_17) rfl ?_
    show Steps p.tables e below (s₁.setTop (mkF m 18 #[.val (.int (8 : Int32))] [(.int (8 : Int32))])) _
    refine XS.iconst X0.here hx rfl (hb hby d1_18) ?_
    show Steps p.tables e below (s₁.setTop (mkF m 19 #[.val (.int (8 : Int32))] [(.int (2 : Int32)), (.int (8 : Int32))])) _
    refine XS.icmpYes X0.here hx rfl (pc0 := 19) (pc' := 26) rfl (hb hby d1_19) rfl (by decide) (by decide) (by decide) ?_
    show Steps p.tables e below (s₁.setTop (mkF m 26 #[.val (.int (8 : Int32))] [])) _
    refine XS.iloadN X0.here hx rfl (hb hby d1_26) rfl ?_
    show Steps p.tables e below (s₁.setTop (mkF m 27 #[.val (.int (8 : Int32))] [(.int (8 : Int32))])) _
    refine XS.iconst X0.here hx rfl (hb hby d1_27) ?_
    show Steps p.tables e below (s₁.setTop (mkF m 28 #[.val (.int (8 : Int32))] [(.int (3 : Int32)), (.int (8 : Int32))])) _
    refine XS.icmpYes X0.here hx rfl (pc0 := 28) (pc' := 35) rfl (hb hby d1_28) rfl (by decide) (by decide) (by decide) ?_
    show Steps p.tables e below (s₁.setTop (mkF m 35 #[.val (.int (8 : Int32))] [])) _
    refine XS.iloadN X0.here hx rfl (hb hby d1_35) rfl ?_
    show Steps p.tables e below (s₁.setTop (mkF m 36 #[.val (.int (8 : Int32))] [(.int (8 : Int32))])) _
    refine XS.iconst X0.here hx rfl (hb hby d1_36) ?_
    show Steps p.tables e below (s₁.setTop (mkF m 37 #[.val (.int (8 : Int32))] [(.int (4 : Int32)), (.int (8 : Int32))])) _
    refine XS.icmpYes X0.here hx rfl (pc0 := 37) (pc' := 44) rfl (hb hby d1_37) rfl (by decide) (by decide) (by decide) ?_
    show Steps p.tables e below (s₁.setTop (mkF m 44 #[.val (.int (8 : Int32))] [])) _
    refine XS.iloadN X0.here hx rfl (hb hby d1_44) rfl ?_
    show Steps p.tables e below (s₁.setTop (mkF m 45 #[.val (.int (8 : Int32))] [(.int (8 : Int32))])) _
    refine XS.iconst X0.here hx rfl (hb hby d1_45) ?_
    show Steps p.tables e below (s₁.setTop (mkF m 46 #[.val (.int (8 : Int32))] [(.int (5 : Int32)), (.int (8 : Int32))])) _
    refine XS.icmpYes X0.here hx rfl (pc0 := 46) (pc' := 53) rfl (hb hby d1_46) rfl (by decide) (by decide) (by decide) ?_
    show Steps p.tables e below (s₁.setTop (mkF m 53 #[.val (.int (8 : Int32))] [])) _
    refine XS.iloadN X0.here hx rfl (hb hby d1_53) rfl ?_
    show Steps p.tables e below (s₁.setTop (mkF m 54 #[.val (.int (8 : Int32))] [(.int (8 : Int32))])) _
    refine XS.bipush X0.here hx rfl (hb hby d1_54) ?_
    show Steps p.tables e below (s₁.setTop (mkF m 56 #[.val (.int (8 : Int32))] [(.int (6 : Int32)), (.int (8 : Int32))])) _
    refine XS.icmpYes X0.here hx rfl (pc0 := 56) (pc' := 63) rfl (hb hby d1_56) rfl (by decide) (by decide) (by decide) ?_
    show Steps p.tables e below (s₁.setTop (mkF m 63 #[.val (.int (8 : Int32))] [])) _
    refine XS.iloadN X0.here hx rfl (hb hby d1_63) rfl ?_
    show Steps p.tables e below (s₁.setTop (mkF m 64 #[.val (.int (8 : Int32))] [(.int (8 : Int32))])) _
    refine XS.bipush X0.here hx rfl (hb hby d1_64) ?_
    show Steps p.tables e below (s₁.setTop (mkF m 66 #[.val (.int (8 : Int32))] [(.int (7 : Int32)), (.int (8 : Int32))])) _
    refine XS.icmpYes X0.here hx rfl (pc0 := 66) (pc' := 73) rfl (hb hby d1_66) rfl (by decide) (by decide) (by decide) ?_
    show Steps p.tables e below (s₁.setTop (mkF m 73 #[.val (.int (8 : Int32))] [])) _
    refine XS.iloadN X0.here hx rfl (hb hby d1_73) rfl ?_
    show Steps p.tables e below (s₁.setTop (mkF m 74 #[.val (.int (8 : Int32))] [(.int (8 : Int32))])) _
    refine XS.bipush X0.here hx rfl (hb hby d1_74) ?_
    show Steps p.tables e below (s₁.setTop (mkF m 76 #[.val (.int (8 : Int32))] [(.int (8 : Int32)), (.int (8 : Int32))])) _
    refine XS.icmpNo X0.here hx rfl (hb hby d1_76) rfl (by decide) ?_
    show Steps p.tables e below (s₁.setTop (mkF m 79 #[.val (.int (8 : Int32))] [])) _
    refine st1 _ ?_
    show Steps p.tables e below (T1.setTop (mkF m 82 #[.val (.int (8 : Int32))] [(.ref a_PASSWORD_IN_HISTORY)])) _
    exact retOut X1 hx Bd.returns rfl (Or.inr (Or.inr (Or.inr (Or.inr ⟨rfl, rfl, rfl⟩)))) (hb hby d1_82) hr
  · show own_Q _ h0 n0 _ T1.heap _
    exact ⟨rfl, N0, e1⟩
set_option maxRecDepth 65536 in
set_option maxHeartbeats 40000000 in
theorem own_b1_9 (l : Launch) (Z : State) (a0 : Array Value) (hw : ∀ d ∈ tables_1, d.before a0 Z = true) (ws : List Jvm.Cond) (a_PASSWORD_EXPIRED a_PASSWORD_MOD_NOT_ALLOWED a_ACCOUNT_LOCKED a_MUST_SUPPLY_OLD_PASSWORD a_PASSWORD_TOO_YOUNG a_CHANGE_AFTER_RESET a_PASSWORD_IN_HISTORY a_INSUFFICIENT_PASSWORD_QUALITY a_PASSWORD_TOO_SHORT : Addr)  (h0 : Heap) (n0 : Nat) (hp : own_Pin Z h0 a_PASSWORD_EXPIRED a_PASSWORD_MOD_NOT_ALLOWED a_ACCOUNT_LOCKED a_MUST_SUPPLY_OLD_PASSWORD a_PASSWORD_TOO_YOUNG a_CHANGE_AFTER_RESET a_PASSWORD_IN_HISTORY a_INSUFFICIENT_PASSWORD_QUALITY a_PASSWORD_TOO_SHORT) :
    MetFree l (⟨"com/example/passwarden/passwarden/core/ChangeDecisionRefusedPinLaw", "pick", "(I)Lcom/example/passwarden/passwarden/core/PolicyError;"⟩ : MethodName) (head1 (Jvm.Cond.code (⟨"com/example/passwarden/passwarden/core/ChangeDecisionRefusedPinLaw", "pick", "(I)Lcom/example/passwarden/passwarden/core/PolicyError;"⟩ : MethodName) method_2_code 1 (some (.object "com/example/passwarden/passwarden/core/PolicyError")) :: ws) ({ frames := 0, cells := 0, slots := 0, locals := 0 } : Room)) (fun a U => a = #[(.int (9 : Int32))] ∧ Z.Warmed39 U.vm ∧ U.heap = h0) (fun _ _ _ _ _ => True) (fun _ U o U' => ∃ v L, o = .returned v ∧ own_Q .null h0 n0 v U'.heap L ∧ FrameEnd U o U' L ({ frames := 0, cells := 0, slots := 0, locals := 0 } : Room).cells ({ frames := 0, cells := 0, slots := 0, locals := 0 } : Room).slots) := by
  have hp' := hp
  obtain ⟨S_PASSWORD_EXPIRED, S_PASSWORD_MOD_NOT_ALLOWED, S_ACCOUNT_LOCKED, S_MUST_SUPPLY_OLD_PASSWORD, S_PASSWORD_TOO_YOUNG, S_CHANGE_AFTER_RESET, S_PASSWORD_IN_HISTORY, S_INSUFFICIENT_PASSWORD_QUALITY, S_PASSWORD_TOO_SHORT, E_PASSWORD_EXPIRED, E_PASSWORD_MOD_NOT_ALLOWED, E_ACCOUNT_LOCKED, E_MUST_SUPPLY_OLD_PASSWORD, E_PASSWORD_TOO_YOUNG, E_CHANGE_AFTER_RESET, E_PASSWORD_IN_HISTORY, E_INSUFFICIENT_PASSWORD_QUALITY, E_PASSWORD_TOO_SHORT⟩ := hp'
  refine MetFree.of_bodySF (plainFor_of_name own_pn1) hisR ?_
  intro p e s m args below meth c s₁ Bd hml0 hP hK
  obtain ⟨rfl, hZ, hh⟩ := hP
  have hx := Bd.exec
  have hby := Bd.bytes
  have hml : c.maxLocals = 1 := hml0
  have hown : s.vm.findClass "com/example/passwarden/passwarden/core/ChangeDecisionRefusedPinLaw" = some m.cls := findClass_of_methodNamed Bd.named
  have X0 : Stand p l e ({ frames := 0, cells := 0, slots := 0, locals := 0 } : Room) s m #[(.int (9 : Int32))] below meth c s₁ [] 0 0 := Stand.of_body Bd
  have e0 : s₁.heap = h0 := by rw [← hh, Bd.state]; rfl
  have N0 := Fr.nil n0
  have pre0 : ∀ t, Steps p.tables e below (s₁.setTop (mkF m 0 #[.val (.int (9 : Int32))] [])) t → Steps p.tables e below (s₁.setTop (entryFrame m #[(.int (9 : Int32))] 1)) t := fun t k => castTop (by first | (simp [entryFrame, mkF, argsToLocals, Value.category]; done) | rfl) k
  obtain ⟨fs, hr, hrun, hended, hW, hsame⟩ := X0.leave (v := some .null) (fun h => by rw [Bd.returns] at h; cases h)
  refine ⟨_, _, pre0 _ ?_, hrun, hended, _, _, rfl, ?_, ⟨_, rfl⟩, hW, hsame.mono (by decide) (by decide)⟩
  · show Steps p.tables e below (s₁.setTop (mkF m 0 #[.val (.int (9 : Int32))] [])) _
    refine XS.iloadN X0.here hx rfl (hb hby d1_0) rfl ?_
    show Steps p.tables e below (s₁.setTop (mkF m 1 #[.val (.int (9 : Int32))] [(.int (9 : Int32))])) _
    refine XS.ifYes X0.here hx rfl (pc0 := 1) (pc' := 8) rfl (hb hby d1_1) rfl (by decide) (by decide) (by decide) ?_
    show Steps p.tables e below (s₁.setTop (mkF m 8 #[.val (.int (9 : Int32))] [])) _
    refine XS.iloadN X0.here hx rfl (hb hby d1_8) rfl ?_
    show Steps p.tables e below (s₁.setTop (mkF m 9 #[.val (.int (9 : Int32))] [(.int (9 : Int32))])) _
    refine XS.iconst X0.here hx rfl (hb hby d1_9) ?_
    show Steps p.tables e below (s₁.setTop (mkF m 10 #[.val (.int (9 : Int32))] [(.int (1 : Int32)), (.int (9 : Int32))])) _
    refine XS.icmpYes X0.here hx rfl (pc0 := 10) (pc' := 17) rfl (hb hby d1_10) rfl (by decide) (by decide) (by decide) ?_
    show Steps p.tables e below (s₁.setTop (mkF m 17 #[.val (.int (9 : Int32))] [])) _
    refine XS.iloadN X0.here hx rfl (hb hby d1_17) rfl ?_
    show Steps p.tables e below (s₁.setTop (mkF m 18 #[.val (.int (9 : Int32))] [(.int (9 : Int32))])) _
    refine XS.iconst X0.here hx rfl (hb hby d1_18) ?_
    show Steps p.tables e below (s₁.setTop (mkF m 19 #[.val (.int (9 : Int32))] [(.int (2 : Int32)), (.int (9 : Int32))])) _
    refine XS.icmpYes X0.here hx rfl (pc0 := 19) (pc' := 26) rfl (hb hby d1_19) rfl (by decide) (by decide) (by decide) ?_
    show Steps p.tables e below (s₁.setTop (mkF m 26 #[.val (.int (9 : Int32))] [])) _
    refine XS.iloadN X0.here hx rfl (hb hby d1_26) rfl ?_
    show Steps p.tables e below (s₁.setTop (mkF m 27 #[.val (.int (9 : Int32))] [(.int (9 : Int32))])) _
    refine XS.iconst X0.here hx rfl (hb hby d1_27) ?_
    show Steps p.tables e below (s₁.setTop (mkF m 28 #[.val (.int (9 : Int32))] [(.int (3 : Int32)), (.int (9 : Int32))])) _
    refine XS.icmpYes X0.here hx rfl (pc0 := 28) (pc' := 35) rfl (hb hby d1_28) rfl (by decide) (by decide) (by decide) ?_
    show Steps p.tables e below (s₁.setTop (mkF m 35 #[.val (.int (9 : Int32))] [])) _
    refine XS.iloadN X0.here hx rfl (hb hby d1_35) rfl ?_
    show Steps p.tables e below (s₁.setTop (mkF m 36 #[.val (.int (9 : Int32))] [(.int (9 : Int32))])) _
    refine XS.iconst X0.here hx rfl (hb hby d1_36) ?_
    show Steps p.tables e below (s₁.setTop (mkF m 37 #[.val (.int (9 : Int32))] [(.int (4 : Int32)), (.int (9 : Int32))])) _
    refine XS.icmpYes X0.here hx rfl (pc0 := 37) (pc' := 44) rfl (hb hby d1_37) rfl (by decide) (by decide) (by decide) ?_
    show Steps p.tables e below (s₁.setTop (mkF m 44 #[.val (.int (9 : Int32))] [])) _
    refine XS.iloadN X0.here hx rfl (hb hby d1_44) rfl ?_
    show Steps p.tables e below (s₁.setTop (mkF m 45 #[.val (.int (9 : Int32))] [(.int (9 : Int32))])) _
    refine XS.iconst X0.here hx rfl (hb hby d1_45) ?_
    show Steps p.tables e below (s₁.setTop (mkF m 46 #[.val (.int (9 : Int32))] [(.int (5 : Int32)), (.int (9 : Int32))])) _
    refine XS.icmpYes X0.here hx rfl (pc0 := 46) (pc' := 53) rfl (hb hby d1_46) rfl (by decide) (by decide) (by decide) ?_
    show Steps p.tables e below (s₁.setTop (mkF m 53 #[.val (.int (9 : Int32))] [])) _
    refine XS.iloadN X0.here hx rfl (hb hby d1_53) rfl ?_
    show Steps p.tables e below (s₁.setTop (mkF m 54 #[.val (.int (9 : Int32))] [(.int (9 : Int32))])) _
    refine XS.bipush X0.here hx rfl (hb hby d1_54) ?_
    show Steps p.tables e below (s₁.setTop (mkF m 56 #[.val (.int (9 : Int32))] [(.int (6 : Int32)), (.int (9 : Int32))])) _
    refine XS.icmpYes X0.here hx rfl (pc0 := 56) (pc' := 63) rfl (hb hby d1_56) rfl (by decide) (by decide) (by decide) ?_
    show Steps p.tables e below (s₁.setTop (mkF m 63 #[.val (.int (9 : Int32))] [])) _
    refine XS.iloadN X0.here hx rfl (hb hby d1_63) rfl ?_
    show Steps p.tables e below (s₁.setTop (mkF m 64 #[.val (.int (9 : Int32))] [(.int (9 : Int32))])) _
    refine XS.bipush X0.here hx rfl (hb hby d1_64) ?_
    show Steps p.tables e below (s₁.setTop (mkF m 66 #[.val (.int (9 : Int32))] [(.int (7 : Int32)), (.int (9 : Int32))])) _
    refine XS.icmpYes X0.here hx rfl (pc0 := 66) (pc' := 73) rfl (hb hby d1_66) rfl (by decide) (by decide) (by decide) ?_
    show Steps p.tables e below (s₁.setTop (mkF m 73 #[.val (.int (9 : Int32))] [])) _
    refine XS.iloadN X0.here hx rfl (hb hby d1_73) rfl ?_
    show Steps p.tables e below (s₁.setTop (mkF m 74 #[.val (.int (9 : Int32))] [(.int (9 : Int32))])) _
    refine XS.bipush X0.here hx rfl (hb hby d1_74) ?_
    show Steps p.tables e below (s₁.setTop (mkF m 76 #[.val (.int (9 : Int32))] [(.int (8 : Int32)), (.int (9 : Int32))])) _
    refine XS.icmpYes X0.here hx rfl (pc0 := 76) (pc' := 83) rfl (hb hby d1_76) rfl (by decide) (by decide) (by decide) ?_
    show Steps p.tables e below (s₁.setTop (mkF m 83 #[.val (.int (9 : Int32))] [])) _
    refine XS.aconstNull X0.here hx rfl (hb hby d1_83) ?_
    show Steps p.tables e below (s₁.setTop (mkF m 84 #[.val (.int (9 : Int32))] [.null])) _
    exact retOut X0 hx Bd.returns rfl (Or.inr (Or.inr (Or.inr (Or.inr ⟨rfl, rfl, rfl⟩)))) (hb hby d1_84) hr
  · show own_Q _ h0 n0 _ s₁.heap _
    exact ⟨rfl, N0, e0⟩
set_option maxRecDepth 65536 in
set_option maxHeartbeats 40000000 in
theorem own_initR (l : Launch) (Z : State) (a0 : Array Value) (hw : ∀ d ∈ tables_1, d.before a0 Z = true) (ws : List Jvm.Cond) (a1 : Addr) (w : Addr)  (u_accepted_a1 : Value) (u_error_a1 : Value) (u_storedPassword_a1 : Value) (u_state_a1 : Value) (u_history_a1 : Value) (h0 : Heap) (n0 : Nat) (Z0 : n0 ≤ h0.size) (E_a1 : Exa Z h0 a1 "com/example/passwarden/passwarden/core/ChangeDecision") (F_accepted_a1 : Fld Z h0 a1 "com/example/passwarden/passwarden/core/ChangeDecision" "accepted" "Z" u_accepted_a1) (g_a1 : n0 ≤ a1) (F_error_a1 : Fld Z h0 a1 "com/example/passwarden/passwarden/core/ChangeDecision" "error" "Lcom/example/passwarden/passwarden/core/PolicyError;" u_error_a1) (F_storedPassword_a1 : Fld Z h0 a1 "com/example/passwarden/passwarden/core/ChangeDecision" "storedPassword" "[B" u_storedPassword_a1) (F_state_a1 : Fld Z h0 a1 "com/example/passwarden/passwarden/core/ChangeDecision" "state" "Lcom/example/passwarden/passwarden/core/AccountState;" u_state_a1) (F_history_a1 : Fld Z h0 a1 "com/example/passwarden/passwarden/core/ChangeDecision" "history" "Lcom/example/passwarden/passwarden/core/PasswordHistory;" u_history_a1) :
    MetFree l (⟨"com/example/passwarden/passwarden/core/ChangeDecision", "<init>", "(ZLcom/example/passwarden/passwarden/core/PolicyError;[BLcom/example/passwarden/passwarden/core/AccountState;Lcom/example/passwarden/passwarden/core/PasswordHistory;)V"⟩ : MethodName) (head1 (Jvm.Cond.code (⟨"com/example/passwarden/passwarden/core/ChangeDecision", "<init>", "(ZLcom/example/passwarden/passwarden/core/PolicyError;[BLcom/example/passwarden/passwarden/core/AccountState;Lcom/example/passwarden/passwarden/core/PasswordHistory;)V"⟩ : MethodName) prog_4_method_1_code 6 none :: ws) ({ frames := 1, cells := 0, slots := 0, locals := 12 } : Room)) (fun a U => a = #[(.ref a1), (.int (0 : Int32)), (.ref w), .null, .null, .null] ∧ Z.Warmed39 U.vm ∧ U.heap = h0) (fun _ _ _ _ _ => True) (fun _ U o U' => ∃ v L, o = .returned v ∧ own_QI (.ref w) Z a1 h0 n0 v U'.heap L ∧ FrameEnd U o U' L ({ frames := 1, cells := 0, slots := 0, locals := 12 } : Room).cells ({ frames := 1, cells := 0, slots := 0, locals := 12 } : Room).slots) := by
  refine MetFree.of_bodySF (plainFor_of_name own_pnC) hisR ?_
  intro p e s m args below meth c s₁ Bd hml0 hP hK
  obtain ⟨rfl, hZ, hh⟩ := hP
  have hx := Bd.exec
  have hby := Bd.bytes
  have hml : c.maxLocals = 6 := hml0
  have hown : s.vm.findClass "com/example/passwarden/passwarden/core/ChangeDecision" = some m.cls := findClass_of_methodNamed Bd.named
  have hnm := (name_of_methodNamed Bd.named Bd.method).1
  have X0 : Stand p l e ({ frames := 1, cells := 0, slots := 0, locals := 12 } : Room) s m #[(.ref a1), (.int (0 : Int32)), (.ref w), .null, .null, .null] below meth c s₁ [] 0 0 := Stand.of_body Bd
  have e0 : s₁.heap = h0 := by rw [← hh, Bd.state]; rfl
  have N0 := Fr.nil n0
  have pre0 : ∀ t, Steps p.tables e below (s₁.setTop (mkF m 0 #[.val (.ref a1), .val (.int (0 : Int32)), .val (.ref w), .val .null, .val .null, .val .null] [])) t → Steps p.tables e below (s₁.setTop (entryFrame m #[(.ref a1), (.int (0 : Int32)), (.ref w), .null, .null, .null] 6)) t := fun t k => castTop (by first | (simp [entryFrame, mkF, argsToLocals, Value.category]; done) | rfl) k
  obtain ⟨T7, X7, e7, st7⟩ := initO X0 hx hZ hown (hw _ (List.mem_of_getElem? (i := 17) rfl)) (hw _ (List.mem_of_getElem? (i := 18) rfl)) (hw _ (List.mem_of_getElem? (i := 19) rfl)) e0 (g := (mkF m 1 #[.val (.ref a1), .val (.int (0 : Int32)), .val (.ref w), .val .null, .val .null, .val .null] [(.ref a1)])) rfl (by rw [hml]; rfl) rfl (hb hby d3_1) (by decide) (W := 0) (by show 2 * 0 + _ ≤ _; exact Nat.le_of_eq rfl) (by decide)
  obtain ⟨T8, h8, X8, e8, W8, st8⟩ := putF X7 hx hZ hown (host := "") (Or.inl (hw _ (List.mem_of_getElem? (i := 20) rfl))) Via.refl e7 F_accepted_a1 E_a1 (Or.inr ⟨(hw _ (List.mem_of_getElem? (i := 21) rfl)), rfl, hnm⟩) (hw _ (List.mem_of_getElem? (i := 13) rfl)) (ty := .boolean) (by decide) rfl rfl (g := (mkF m 6 #[.val (.ref a1), .val (.int (0 : Int32)), .val (.ref w), .val .null, .val .null, .val .null] [(.int (0 : Int32)), (.ref a1)])) rfl rfl (hb hby d3_6)
  have Fw8 := F_accepted_a1.same W8
  have K8 : Keep h0 h8 [a1] := (Keep.refl h0 [a1]).wr W8 (Or.inl (List.mem_of_getElem? (i := 0) rfl))
  have N8 := Fr.snoc X8 N0 g_a1
  obtain ⟨T9, h9, X9, e9, W9, st9⟩ := putF X8 hx hZ hown (host := "") (Or.inl (hw _ (List.mem_of_getElem? (i := 22) rfl))) Via.refl e8 (F_error_a1.other W8 (Or.inr (slot_ne (Or.inr (hw _ (List.mem_of_getElem? (i := 23) rfl))) (Or.inr (hw _ (List.mem_of_getElem? (i := 21) rfl))) (by decide) (t := (.object "com/example/passwarden/passwarden/core/PolicyError")) (t' := .boolean) (by decide) (by decide)))) (E_a1.wr W8) (Or.inr ⟨(hw _ (List.mem_of_getElem? (i := 23) rfl)), rfl, hnm⟩) (hw _ (List.mem_of_getElem? (i := 13) rfl)) (ty := (.object "com/example/passwarden/passwarden/core/PolicyError")) (by decide) rfl rfl (g := (mkF m 11 #[.val (.ref a1), .val (.int (0 : Int32)), .val (.ref w), .val .null, .val .null, .val .null] [(.ref w), (.ref a1)])) rfl rfl (hb hby d3_11)
  have Fw9 := (F_error_a1.other W8 (Or.inr (slot_ne (Or.inr (hw _ (List.mem_of_getElem? (i := 23) rfl))) (Or.inr (hw _ (List.mem_of_getElem? (i := 21) rfl))) (by decide) (t := (.object "com/example/passwarden/passwarden/core/PolicyError")) (t' := .boolean) (by decide) (by decide)))).same W9
  have K9 : Keep h0 h9 [a1] := K8.wr W9 (Or.inl (List.mem_of_getElem? (i := 0) rfl))
  have N9 := Fr.snoc X9 N8 g_a1
  obtain ⟨T10, h10, X10, e10, W10, st10⟩ := putF X9 hx hZ hown (host := "") (Or.inl (hw _ (List.mem_of_getElem? (i := 24) rfl))) Via.refl e9 ((F_storedPassword_a1.other W8 (Or.inr (slot_ne (Or.inr (hw _ (List.mem_of_getElem? (i := 25) rfl))) (Or.inr (hw _ (List.mem_of_getElem? (i := 21) rfl))) (by decide) (t := (.array .byte)) (t' := .boolean) (by decide) (by decide)))).other W9 (Or.inr (slot_ne (Or.inr (hw _ (List.mem_of_getElem? (i := 25) rfl))) (Or.inr (hw _ (List.mem_of_getElem? (i := 23) rfl))) (by decide) (t := (.array .byte)) (t' := (.object "com/example/passwarden/passwarden/core/PolicyError")) (by decide) (by decide)))) ((E_a1.wr W8).wr W9) (Or.inr ⟨(hw _ (List.mem_of_getElem? (i := 25) rfl)), rfl, hnm⟩) (hw _ (List.mem_of_getElem? (i := 13) rfl)) (ty := (.array .byte)) (by decide) rfl rfl (g := (mkF m 16 #[.val (.ref a1), .val (.int (0 : Int32)), .val (.ref w), .val .null, .val .null, .val .null] [.null, (.ref a1)])) rfl rfl (hb hby d3_16)
  have Fw10 := ((F_storedPassword_a1.other W8 (Or.inr (slot_ne (Or.inr (hw _ (List.mem_of_getElem? (i := 25) rfl))) (Or.inr (hw _ (List.mem_of_getElem? (i := 21) rfl))) (by decide) (t := (.array .byte)) (t' := .boolean) (by decide) (by decide)))).other W9 (Or.inr (slot_ne (Or.inr (hw _ (List.mem_of_getElem? (i := 25) rfl))) (Or.inr (hw _ (List.mem_of_getElem? (i := 23) rfl))) (by decide) (t := (.array .byte)) (t' := (.object "com/example/passwarden/passwarden/core/PolicyError")) (by decide) (by decide)))).same W10
  have K10 : Keep h0 h10 [a1] := K9.wr W10 (Or.inl (List.mem_of_getElem? (i := 0) rfl))
  have N10 := Fr.snoc X10 N9 g_a1
  obtain ⟨T11, h11, X11, e11, W11, st11⟩ := putF X10 hx hZ hown (host := "") (Or.inl (hw _ (List.mem_of_getElem? (i := 26) rfl))) Via.refl e10 (((F_state_a1.other W8 (Or.inr (slot_ne (Or.inr (hw _ (List.mem_of_getElem? (i := 27) rfl))) (Or.inr (hw _ (List.mem_of_getElem? (i := 21) rfl))) (by decide) (t := (.object "com/example/passwarden/passwarden/core/AccountState")) (t' := .boolean) (by decide) (by decide)))).other W9 (Or.inr (slot_ne (Or.inr (hw _ (List.mem_of_getElem? (i := 27) rfl))) (Or.inr (hw _ (List.mem_of_getElem? (i := 23) rfl))) (by decide) (t := (.object "com/example/passwarden/passwarden/core/AccountState")) (t' := (.object "com/example/passwarden/passwarden/core/PolicyError")) (by decide) (by decide)))).other W10 (Or.inr (slot_ne (Or.inr (hw _ (List.mem_of_getElem? (i := 27) rfl))) (Or.inr (hw _ (List.mem_of_getElem? (i := 25) rfl))) (by decide) (t := (.object "com/example/passwarden/passwarden/core/AccountState")) (t' := (.array .byte)) (by decide) (by decide)))) (((E_a1.wr W8).wr W9).wr W10) (Or.inr ⟨(hw _ (List.mem_of_getElem? (i := 27) rfl)), rfl, hnm⟩) (hw _ (List.mem_of_getElem? (i := 13) rfl)) (ty := (.object "com/example/passwarden/passwarden/core/AccountState")) (by decide) rfl rfl (g := (mkF m 22 #[.val (.ref a1), .val (.int (0 : Int32)), .val (.ref w), .val .null, .val .null, .val .null] [.null, (.ref a1)])) rfl rfl (hb hby d3_22)
  have Fw11 := (((F_state_a1.other W8 (Or.inr (slot_ne (Or.inr (hw _ (List.mem_of_getElem? (i := 27) rfl))) (Or.inr (hw _ (List.mem_of_getElem? (i := 21) rfl))) (by decide) (t := (.object "com/example/passwarden/passwarden/core/AccountState")) (t' := .boolean) (by decide) (by decide)))).other W9 (Or.inr (slot_ne (Or.inr (hw _ (List.mem_of_getElem? (i := 27) rfl))) (Or.inr (hw _ (List.mem_of_getElem? (i := 23) rfl))) (by decide) (t := (.object "com/example/passwarden/passwarden/core/AccountState")) (t' := (.object "com/example/passwarden/passwarden/core/PolicyError")) (by decide) (by decide)))).other W10 (Or.inr (slot_ne (Or.inr (hw _ (List.mem_of_getElem? (i := 27) rfl))) (Or.inr (hw _ (List.mem_of_getElem? (i := 25) rfl))) (by decide) (t := (.object "com/example/passwarden/passwarden/core/AccountState")) (t' := (.array .byte)) (by decide) (by decide)))).same W11
  have K11 : Keep h0 h11 [a1] := K10.wr W11 (Or.inl (List.mem_of_getElem? (i := 0) rfl))
  have N11 := Fr.snoc X11 N10 g_a1
  obtain ⟨T12, h12, X12, e12, W12, st12⟩ := putF X11 hx hZ hown (host := "") (Or.inl (hw _ (List.mem_of_getElem? (i := 28) rfl))) Via.refl e11 ((((F_history_a1.other W8 (Or.inr (slot_ne (Or.inr (hw _ (List.mem_of_getElem? (i := 29) rfl))) (Or.inr (hw _ (List.mem_of_getElem? (i := 21) rfl))) (by decide) (t := (.object "com/example/passwarden/passwarden/core/PasswordHistory")) (t' := .boolean) (by decide) (by decide)))).other W9 (Or.inr (slot_ne (Or.inr (hw _ (List.mem_of_getElem? (i := 29) rfl))) (Or.inr (hw _ (List.mem_of_getElem? (i := 23) rfl))) (by decide) (t := (.object "com/example/passwarden/passwarden/core/PasswordHistory")) (t' := (.object "com/example/passwarden/passwarden/core/PolicyError")) (by decide) (by decide)))).other W10 (Or.inr (slot_ne (Or.inr (hw _ (List.mem_of_getElem? (i := 29) rfl))) (Or.inr (hw _ (List.mem_of_getElem? (i := 25) rfl))) (by decide) (t := (.object "com/example/passwarden/passwarden/core/PasswordHistory")) (t' := (.array .byte)) (by decide) (by decide)))).other W11 (Or.inr (slot_ne (Or.inr (hw _ (List.mem_of_getElem? (i := 29) rfl))) (Or.inr (hw _ (List.mem_of_getElem? (i := 27) rfl))) (by decide) (t := (.object "com/example/passwarden/passwarden/core/PasswordHistory")) (t' := (.object "com/example/passwarden/passwarden/core/AccountState")) (by decide) (by decide)))) ((((E_a1.wr W8).wr W9).wr W10).wr W11) (Or.inr ⟨(hw _ (List.mem_of_getElem? (i := 29) rfl)), rfl, hnm⟩) (hw _ (List.mem_of_getElem? (i := 13) rfl)) (ty := (.object "com/example/passwarden/passwarden/core/PasswordHistory")) (by decide) rfl rfl (g := (mkF m 28 #[.val (.ref a1), .val (.int (0 : Int32)), .val (.ref w), .val .null, .val .null, .val .null] [.null, (.ref a1)])) rfl rfl (hb hby d3_28)
  have Fw12 := ((((F_history_a1.other W8 (Or.inr (slot_ne (Or.inr (hw _ (List.mem_of_getElem? (i := 29) rfl))) (Or.inr (hw _ (List.mem_of_getElem? (i := 21) rfl))) (by decide) (t := (.object "com/example/passwarden/passwarden/core/PasswordHistory")) (t' := .boolean) (by decide) (by decide)))).other W9 (Or.inr (slot_ne (Or.inr (hw _ (List.mem_of_getElem? (i := 29) rfl))) (Or.inr (hw _ (List.mem_of_getElem? (i := 23) rfl))) (by decide) (t := (.object "com/example/passwarden/passwarden/core/PasswordHistory")) (t' := (.object "com/example/passwarden/passwarden/core/PolicyError")) (by decide) (by decide)))).other W10 (Or.inr (slot_ne (Or.inr (hw _ (List.mem_of_getElem? (i := 29) rfl))) (Or.inr (hw _ (List.mem_of_getElem? (i := 25) rfl))) (by decide) (t := (.object "com/example/passwarden/passwarden/core/PasswordHistory")) (t' := (.array .byte)) (by decide) (by decide)))).other W11 (Or.inr (slot_ne (Or.inr (hw _ (List.mem_of_getElem? (i := 29) rfl))) (Or.inr (hw _ (List.mem_of_getElem? (i := 27) rfl))) (by decide) (t := (.object "com/example/passwarden/passwarden/core/PasswordHistory")) (t' := (.object "com/example/passwarden/passwarden/core/AccountState")) (by decide) (by decide)))).same W12
  have K12 : Keep h0 h12 [a1] := K11.wr W12 (Or.inl (List.mem_of_getElem? (i := 0) rfl))
  have N12 := Fr.snoc X12 N11 g_a1
  obtain ⟨fs, hr, hrun, hended, hW, hsame⟩ := X12.leave (v := none) (fun _ => rfl)
  refine ⟨_, _, pre0 _ ?_, hrun, hended, _, _, rfl, ?_, ⟨_, rfl⟩, hW, hsame.mono (by decide) (by decide)⟩
  · show Steps p.tables e below (s₁.setTop (mkF m 0 #[.val (.ref a1), .val (.int (0 : Int32)), .val (.ref w), .val .null, .val .null, .val .null] [])) _
    refine XS.aloadN X0.here hx rfl (hb hby d3_0) rfl rfl ?_
    show Steps p.tables e below (s₁.setTop (mkF m 1 #[.val (.ref a1), .val (.int (0 : Int32)), .val (.ref w), .val .null, .val .null, .val .null] [(.ref a1)])) _
    refine st7 _ ?_
    show Steps p.tables e below (T7.setTop (mkF m 4 #[.val (.ref a1), .val (.int (0 : Int32)), .val (.ref w), .val .null, .val .null, .val .null] [])) _
    refine XS.aloadN X7.here hx rfl (hb hby d3_4) rfl rfl ?_
    show Steps p.tables e below (T7.setTop (mkF m 5 #[.val (.ref a1), .val (.int (0 : Int32)), .val (.ref w), .val .null, .val .null, .val .null] [(.ref a1)])) _
    refine XS.iloadN X7.here hx rfl (hb hby d3_5) rfl ?_
    show Steps p.tables e below (T7.setTop (mkF m 6 #[.val (.ref a1), .val (.int (0 : Int32)), .val (.ref w), .val .null, .val .null, .val .null] [(.int (0 : Int32)), (.ref a1)])) _
    refine st8 _ ?_
    show Steps p.tables e below (T8.setTop (mkF m 9 #[.val (.ref a1), .val (.int (0 : Int32)), .val (.ref w), .val .null, .val .null, .val .null] [])) _
    refine XS.aloadN X8.here hx rfl (hb hby d3_9) rfl rfl ?_
    show Steps p.tables e below (T8.setTop (mkF m 10 #[.val (.ref a1), .val (.int (0 : Int32)), .val (.ref w), .val .null, .val .null, .val .null] [(.ref a1)])) _
    refine XS.aloadN X8.here hx rfl (hb hby d3_10) rfl rfl ?_
    show Steps p.tables e below (T8.setTop (mkF m 11 #[.val (.ref a1), .val (.int (0 : Int32)), .val (.ref w), .val .null, .val .null, .val .null] [(.ref w), (.ref a1)])) _
    refine st9 _ ?_
    show Steps p.tables e below (T9.setTop (mkF m 14 #[.val (.ref a1), .val (.int (0 : Int32)), .val (.ref w), .val .null, .val .null, .val .null] [])) _
    refine XS.aloadN X9.here hx rfl (hb hby d3_14) rfl rfl ?_
    show Steps p.tables e below (T9.setTop (mkF m 15 #[.val (.ref a1), .val (.int (0 : Int32)), .val (.ref w), .val .null, .val .null, .val .null] [(.ref a1)])) _
    refine XS.aloadN X9.here hx rfl (hb hby d3_15) rfl rfl ?_
    show Steps p.tables e below (T9.setTop (mkF m 16 #[.val (.ref a1), .val (.int (0 : Int32)), .val (.ref w), .val .null, .val .null, .val .null] [.null, (.ref a1)])) _
    refine st10 _ ?_
    show Steps p.tables e below (T10.setTop (mkF m 19 #[.val (.ref a1), .val (.int (0 : Int32)), .val (.ref w), .val .null, .val .null, .val .null] [])) _
    refine XS.aloadN X10.here hx rfl (hb hby d3_19) rfl rfl ?_
    show Steps p.tables e below (T10.setTop (mkF m 20 #[.val (.ref a1), .val (.int (0 : Int32)), .val (.ref w), .val .null, .val .null, .val .null] [(.ref a1)])) _
    refine XS.aload X10.here hx rfl (hb hby d3_20) rfl rfl ?_
    show Steps p.tables e below (T10.setTop (mkF m 22 #[.val (.ref a1), .val (.int (0 : Int32)), .val (.ref w), .val .null, .val .null, .val .null] [.null, (.ref a1)])) _
    refine st11 _ ?_
    show Steps p.tables e below (T11.setTop (mkF m 25 #[.val (.ref a1), .val (.int (0 : Int32)), .val (.ref w), .val .null, .val .null, .val .null] [])) _
    refine XS.aloadN X11.here hx rfl (hb hby d3_25) rfl rfl ?_
    show Steps p.tables e below (T11.setTop (mkF m 26 #[.val (.ref a1), .val (.int (0 : Int32)), .val (.ref w), .val .null, .val .null, .val .null] [(.ref a1)])) _
    refine XS.aload X11.here hx rfl (hb hby d3_26) rfl rfl ?_
    show Steps p.tables e below (T11.setTop (mkF m 28 #[.val (.ref a1), .val (.int (0 : Int32)), .val (.ref w), .val .null, .val .null, .val .null] [.null, (.ref a1)])) _
    refine st12 _ ?_
    show Steps p.tables e below (T12.setTop (mkF m 31 #[.val (.ref a1), .val (.int (0 : Int32)), .val (.ref w), .val .null, .val .null, .val .null] [])) _
    exact X12.returnOut hx Bd.returns (hb hby d3_31) hr
  · show own_QI (.ref w) Z a1 h0 n0 _ T12.heap _
    rw [e12]
    exact ⟨rfl, N12, K12, (((((E_a1.wr W8).wr W9).wr W10).wr W11).wr W12), ((((Fw8.other W9 (Or.inr (slot_ne (Or.inr (hw _ (List.mem_of_getElem? (i := 21) rfl))) (Or.inr (hw _ (List.mem_of_getElem? (i := 23) rfl))) (by decide) (t := .boolean) (t' := (.object "com/example/passwarden/passwarden/core/PolicyError")) (by decide) (by decide)))).other W10 (Or.inr (slot_ne (Or.inr (hw _ (List.mem_of_getElem? (i := 21) rfl))) (Or.inr (hw _ (List.mem_of_getElem? (i := 25) rfl))) (by decide) (t := .boolean) (t' := (.array .byte)) (by decide) (by decide)))).other W11 (Or.inr (slot_ne (Or.inr (hw _ (List.mem_of_getElem? (i := 21) rfl))) (Or.inr (hw _ (List.mem_of_getElem? (i := 27) rfl))) (by decide) (t := .boolean) (t' := (.object "com/example/passwarden/passwarden/core/AccountState")) (by decide) (by decide)))).other W12 (Or.inr (slot_ne (Or.inr (hw _ (List.mem_of_getElem? (i := 21) rfl))) (Or.inr (hw _ (List.mem_of_getElem? (i := 29) rfl))) (by decide) (t := .boolean) (t' := (.object "com/example/passwarden/passwarden/core/PasswordHistory")) (by decide) (by decide)))), (((Fw9.other W10 (Or.inr (slot_ne (Or.inr (hw _ (List.mem_of_getElem? (i := 23) rfl))) (Or.inr (hw _ (List.mem_of_getElem? (i := 25) rfl))) (by decide) (t := (.object "com/example/passwarden/passwarden/core/PolicyError")) (t' := (.array .byte)) (by decide) (by decide)))).other W11 (Or.inr (slot_ne (Or.inr (hw _ (List.mem_of_getElem? (i := 23) rfl))) (Or.inr (hw _ (List.mem_of_getElem? (i := 27) rfl))) (by decide) (t := (.object "com/example/passwarden/passwarden/core/PolicyError")) (t' := (.object "com/example/passwarden/passwarden/core/AccountState")) (by decide) (by decide)))).other W12 (Or.inr (slot_ne (Or.inr (hw _ (List.mem_of_getElem? (i := 23) rfl))) (Or.inr (hw _ (List.mem_of_getElem? (i := 29) rfl))) (by decide) (t := (.object "com/example/passwarden/passwarden/core/PolicyError")) (t' := (.object "com/example/passwarden/passwarden/core/PasswordHistory")) (by decide) (by decide)))), ((Fw10.other W11 (Or.inr (slot_ne (Or.inr (hw _ (List.mem_of_getElem? (i := 25) rfl))) (Or.inr (hw _ (List.mem_of_getElem? (i := 27) rfl))) (by decide) (t := (.array .byte)) (t' := (.object "com/example/passwarden/passwarden/core/AccountState")) (by decide) (by decide)))).other W12 (Or.inr (slot_ne (Or.inr (hw _ (List.mem_of_getElem? (i := 25) rfl))) (Or.inr (hw _ (List.mem_of_getElem? (i := 29) rfl))) (by decide) (t := (.array .byte)) (t' := (.object "com/example/passwarden/passwarden/core/PasswordHistory")) (by decide) (by decide)))), (Fw11.other W12 (Or.inr (slot_ne (Or.inr (hw _ (List.mem_of_getElem? (i := 27) rfl))) (Or.inr (hw _ (List.mem_of_getElem? (i := 29) rfl))) (by decide) (t := (.object "com/example/passwarden/passwarden/core/AccountState")) (t' := (.object "com/example/passwarden/passwarden/core/PasswordHistory")) (by decide) (by decide)))), Fw12⟩
set_option maxRecDepth 65536 in
set_option maxHeartbeats 40000000 in
theorem own_initN (l : Launch) (Z : State) (a0 : Array Value) (hw : ∀ d ∈ tables_1, d.before a0 Z = true) (ws : List Jvm.Cond) (a1 : Addr)  (u_accepted_a1 : Value) (u_error_a1 : Value) (u_storedPassword_a1 : Value) (u_state_a1 : Value) (u_history_a1 : Value) (h0 : Heap) (n0 : Nat) (Z0 : n0 ≤ h0.size) (E_a1 : Exa Z h0 a1 "com/example/passwarden/passwarden/core/ChangeDecision") (F_accepted_a1 : Fld Z h0 a1 "com/example/passwarden/passwarden/core/ChangeDecision" "accepted" "Z" u_accepted_a1) (g_a1 : n0 ≤ a1) (F_error_a1 : Fld Z h0 a1 "com/example/passwarden/passwarden/core/ChangeDecision" "error" "Lcom/example/passwarden/passwarden/core/PolicyError;" u_error_a1) (F_storedPassword_a1 : Fld Z h0 a1 "com/example/passwarden/passwarden/core/ChangeDecision" "storedPassword" "[B" u_storedPassword_a1) (F_state_a1 : Fld Z h0 a1 "com/example/passwarden/passwarden/core/ChangeDecision" "state" "Lcom/example/passwarden/passwarden/core/AccountState;" u_state_a1) (F_history_a1 : Fld Z h0 a1 "com/example/passwarden/passwarden/core/ChangeDecision" "history" "Lcom/example/passwarden/passwarden/core/PasswordHistory;" u_history_a1) :
    MetFree l (⟨"com/example/passwarden/passwarden/core/ChangeDecision", "<init>", "(ZLcom/example/passwarden/passwarden/core/PolicyError;[BLcom/example/passwarden/passwarden/core/AccountState;Lcom/example/passwarden/passwarden/core/PasswordHistory;)V"⟩ : MethodName) (head1 (Jvm.Cond.code (⟨"com/example/passwarden/passwarden/core/ChangeDecision", "<init>", "(ZLcom/example/passwarden/passwarden/core/PolicyError;[BLcom/example/passwarden/passwarden/core/AccountState;Lcom/example/passwarden/passwarden/core/PasswordHistory;)V"⟩ : MethodName) prog_4_method_1_code 6 none :: ws) ({ frames := 1, cells := 0, slots := 0, locals := 12 } : Room)) (fun a U => a = #[(.ref a1), (.int (0 : Int32)), .null, .null, .null, .null] ∧ Z.Warmed39 U.vm ∧ U.heap = h0) (fun _ _ _ _ _ => True) (fun _ U o U' => ∃ v L, o = .returned v ∧ own_QI .null Z a1 h0 n0 v U'.heap L ∧ FrameEnd U o U' L ({ frames := 1, cells := 0, slots := 0, locals := 12 } : Room).cells ({ frames := 1, cells := 0, slots := 0, locals := 12 } : Room).slots) := by
  refine MetFree.of_bodySF (plainFor_of_name own_pnC) hisR ?_
  intro p e s m args below meth c s₁ Bd hml0 hP hK
  obtain ⟨rfl, hZ, hh⟩ := hP
  have hx := Bd.exec
  have hby := Bd.bytes
  have hml : c.maxLocals = 6 := hml0
  have hown : s.vm.findClass "com/example/passwarden/passwarden/core/ChangeDecision" = some m.cls := findClass_of_methodNamed Bd.named
  have hnm := (name_of_methodNamed Bd.named Bd.method).1
  have X0 : Stand p l e ({ frames := 1, cells := 0, slots := 0, locals := 12 } : Room) s m #[(.ref a1), (.int (0 : Int32)), .null, .null, .null, .null] below meth c s₁ [] 0 0 := Stand.of_body Bd
  have e0 : s₁.heap = h0 := by rw [← hh, Bd.state]; rfl
  have N0 := Fr.nil n0
  have pre0 : ∀ t, Steps p.tables e below (s₁.setTop (mkF m 0 #[.val (.ref a1), .val (.int (0 : Int32)), .val .null, .val .null, .val .null, .val .null] [])) t → Steps p.tables e below (s₁.setTop (entryFrame m #[(.ref a1), (.int (0 : Int32)), .null, .null, .null, .null] 6)) t := fun t k => castTop (by first | (simp [entryFrame, mkF, argsToLocals, Value.category]; done) | rfl) k
  obtain ⟨T7, X7, e7, st7⟩ := initO X0 hx hZ hown (hw _ (List.mem_of_getElem? (i := 17) rfl)) (hw _ (List.mem_of_getElem? (i := 18) rfl)) (hw _ (List.mem_of_getElem? (i := 19) rfl)) e0 (g := (mkF m 1 #[.val (.ref a1), .val (.int (0 : Int32)), .val .null, .val .null, .val .null, .val .null] [(.ref a1)])) rfl (by rw [hml]; rfl) rfl (hb hby d3_1) (by decide) (W := 0) (by show 2 * 0 + _ ≤ _; exact Nat.le_of_eq rfl) (by decide)
  obtain ⟨T8, h8, X8, e8, W8, st8⟩ := putF X7 hx hZ hown (host := "") (Or.inl (hw _ (List.mem_of_getElem? (i := 20) rfl))) Via.refl e7 F_accepted_a1 E_a1 (Or.inr ⟨(hw _ (List.mem_of_getElem? (i := 21) rfl)), rfl, hnm⟩) (hw _ (List.mem_of_getElem? (i := 13) rfl)) (ty := .boolean) (by decide) rfl rfl (g := (mkF m 6 #[.val (.ref a1), .val (.int (0 : Int32)), .val .null, .val .null, .val .null, .val .null] [(.int (0 : Int32)), (.ref a1)])) rfl rfl (hb hby d3_6)
  have Fw8 := F_accepted_a1.same W8
  have K8 : Keep h0 h8 [a1] := (Keep.refl h0 [a1]).wr W8 (Or.inl (List.mem_of_getElem? (i := 0) rfl))
  have N8 := Fr.snoc X8 N0 g_a1
  obtain ⟨T9, h9, X9, e9, W9, st9⟩ := putF X8 hx hZ hown (host := "") (Or.inl (hw _ (List.mem_of_getElem? (i := 22) rfl))) Via.refl e8 (F_error_a1.other W8 (Or.inr (slot_ne (Or.inr (hw _ (List.mem_of_getElem? (i := 23) rfl))) (Or.inr (hw _ (List.mem_of_getElem? (i := 21) rfl))) (by decide) (t := (.object "com/example/passwarden/passwarden/core/PolicyError")) (t' := .boolean) (by decide) (by decide)))) (E_a1.wr W8) (Or.inr ⟨(hw _ (List.mem_of_getElem? (i := 23) rfl)), rfl, hnm⟩) (hw _ (List.mem_of_getElem? (i := 13) rfl)) (ty := (.object "com/example/passwarden/passwarden/core/PolicyError")) (by decide) rfl rfl (g := (mkF m 11 #[.val (.ref a1), .val (.int (0 : Int32)), .val .null, .val .null, .val .null, .val .null] [.null, (.ref a1)])) rfl rfl (hb hby d3_11)
  have Fw9 := (F_error_a1.other W8 (Or.inr (slot_ne (Or.inr (hw _ (List.mem_of_getElem? (i := 23) rfl))) (Or.inr (hw _ (List.mem_of_getElem? (i := 21) rfl))) (by decide) (t := (.object "com/example/passwarden/passwarden/core/PolicyError")) (t' := .boolean) (by decide) (by decide)))).same W9
  have K9 : Keep h0 h9 [a1] := K8.wr W9 (Or.inl (List.mem_of_getElem? (i := 0) rfl))
  have N9 := Fr.snoc X9 N8 g_a1
  obtain ⟨T10, h10, X10, e10, W10, st10⟩ := putF X9 hx hZ hown (host := "") (Or.inl (hw _ (List.mem_of_getElem? (i := 24) rfl))) Via.refl e9 ((F_storedPassword_a1.other W8 (Or.inr (slot_ne (Or.inr (hw _ (List.mem_of_getElem? (i := 25) rfl))) (Or.inr (hw _ (List.mem_of_getElem? (i := 21) rfl))) (by decide) (t := (.array .byte)) (t' := .boolean) (by decide) (by decide)))).other W9 (Or.inr (slot_ne (Or.inr (hw _ (List.mem_of_getElem? (i := 25) rfl))) (Or.inr (hw _ (List.mem_of_getElem? (i := 23) rfl))) (by decide) (t := (.array .byte)) (t' := (.object "com/example/passwarden/passwarden/core/PolicyError")) (by decide) (by decide)))) ((E_a1.wr W8).wr W9) (Or.inr ⟨(hw _ (List.mem_of_getElem? (i := 25) rfl)), rfl, hnm⟩) (hw _ (List.mem_of_getElem? (i := 13) rfl)) (ty := (.array .byte)) (by decide) rfl rfl (g := (mkF m 16 #[.val (.ref a1), .val (.int (0 : Int32)), .val .null, .val .null, .val .null, .val .null] [.null, (.ref a1)])) rfl rfl (hb hby d3_16)
  have Fw10 := ((F_storedPassword_a1.other W8 (Or.inr (slot_ne (Or.inr (hw _ (List.mem_of_getElem? (i := 25) rfl))) (Or.inr (hw _ (List.mem_of_getElem? (i := 21) rfl))) (by decide) (t := (.array .byte)) (t' := .boolean) (by decide) (by decide)))).other W9 (Or.inr (slot_ne (Or.inr (hw _ (List.mem_of_getElem? (i := 25) rfl))) (Or.inr (hw _ (List.mem_of_getElem? (i := 23) rfl))) (by decide) (t := (.array .byte)) (t' := (.object "com/example/passwarden/passwarden/core/PolicyError")) (by decide) (by decide)))).same W10
  have K10 : Keep h0 h10 [a1] := K9.wr W10 (Or.inl (List.mem_of_getElem? (i := 0) rfl))
  have N10 := Fr.snoc X10 N9 g_a1
  obtain ⟨T11, h11, X11, e11, W11, st11⟩ := putF X10 hx hZ hown (host := "") (Or.inl (hw _ (List.mem_of_getElem? (i := 26) rfl))) Via.refl e10 (((F_state_a1.other W8 (Or.inr (slot_ne (Or.inr (hw _ (List.mem_of_getElem? (i := 27) rfl))) (Or.inr (hw _ (List.mem_of_getElem? (i := 21) rfl))) (by decide) (t := (.object "com/example/passwarden/passwarden/core/AccountState")) (t' := .boolean) (by decide) (by decide)))).other W9 (Or.inr (slot_ne (Or.inr (hw _ (List.mem_of_getElem? (i := 27) rfl))) (Or.inr (hw _ (List.mem_of_getElem? (i := 23) rfl))) (by decide) (t := (.object "com/example/passwarden/passwarden/core/AccountState")) (t' := (.object "com/example/passwarden/passwarden/core/PolicyError")) (by decide) (by decide)))).other W10 (Or.inr (slot_ne (Or.inr (hw _ (List.mem_of_getElem? (i := 27) rfl))) (Or.inr (hw _ (List.mem_of_getElem? (i := 25) rfl))) (by decide) (t := (.object "com/example/passwarden/passwarden/core/AccountState")) (t' := (.array .byte)) (by decide) (by decide)))) (((E_a1.wr W8).wr W9).wr W10) (Or.inr ⟨(hw _ (List.mem_of_getElem? (i := 27) rfl)), rfl, hnm⟩) (hw _ (List.mem_of_getElem? (i := 13) rfl)) (ty := (.object "com/example/passwarden/passwarden/core/AccountState")) (by decide) rfl rfl (g := (mkF m 22 #[.val (.ref a1), .val (.int (0 : Int32)), .val .null, .val .null, .val .null, .val .null] [.null, (.ref a1)])) rfl rfl (hb hby d3_22)
  have Fw11 := (((F_state_a1.other W8 (Or.inr (slot_ne (Or.inr (hw _ (List.mem_of_getElem? (i := 27) rfl))) (Or.inr (hw _ (List.mem_of_getElem? (i := 21) rfl))) (by decide) (t := (.object "com/example/passwarden/passwarden/core/AccountState")) (t' := .boolean) (by decide) (by decide)))).other W9 (Or.inr (slot_ne (Or.inr (hw _ (List.mem_of_getElem? (i := 27) rfl))) (Or.inr (hw _ (List.mem_of_getElem? (i := 23) rfl))) (by decide) (t := (.object "com/example/passwarden/passwarden/core/AccountState")) (t' := (.object "com/example/passwarden/passwarden/core/PolicyError")) (by decide) (by decide)))).other W10 (Or.inr (slot_ne (Or.inr (hw _ (List.mem_of_getElem? (i := 27) rfl))) (Or.inr (hw _ (List.mem_of_getElem? (i := 25) rfl))) (by decide) (t := (.object "com/example/passwarden/passwarden/core/AccountState")) (t' := (.array .byte)) (by decide) (by decide)))).same W11
  have K11 : Keep h0 h11 [a1] := K10.wr W11 (Or.inl (List.mem_of_getElem? (i := 0) rfl))
  have N11 := Fr.snoc X11 N10 g_a1
  obtain ⟨T12, h12, X12, e12, W12, st12⟩ := putF X11 hx hZ hown (host := "") (Or.inl (hw _ (List.mem_of_getElem? (i := 28) rfl))) Via.refl e11 ((((F_history_a1.other W8 (Or.inr (slot_ne (Or.inr (hw _ (List.mem_of_getElem? (i := 29) rfl))) (Or.inr (hw _ (List.mem_of_getElem? (i := 21) rfl))) (by decide) (t := (.object "com/example/passwarden/passwarden/core/PasswordHistory")) (t' := .boolean) (by decide) (by decide)))).other W9 (Or.inr (slot_ne (Or.inr (hw _ (List.mem_of_getElem? (i := 29) rfl))) (Or.inr (hw _ (List.mem_of_getElem? (i := 23) rfl))) (by decide) (t := (.object "com/example/passwarden/passwarden/core/PasswordHistory")) (t' := (.object "com/example/passwarden/passwarden/core/PolicyError")) (by decide) (by decide)))).other W10 (Or.inr (slot_ne (Or.inr (hw _ (List.mem_of_getElem? (i := 29) rfl))) (Or.inr (hw _ (List.mem_of_getElem? (i := 25) rfl))) (by decide) (t := (.object "com/example/passwarden/passwarden/core/PasswordHistory")) (t' := (.array .byte)) (by decide) (by decide)))).other W11 (Or.inr (slot_ne (Or.inr (hw _ (List.mem_of_getElem? (i := 29) rfl))) (Or.inr (hw _ (List.mem_of_getElem? (i := 27) rfl))) (by decide) (t := (.object "com/example/passwarden/passwarden/core/PasswordHistory")) (t' := (.object "com/example/passwarden/passwarden/core/AccountState")) (by decide) (by decide)))) ((((E_a1.wr W8).wr W9).wr W10).wr W11) (Or.inr ⟨(hw _ (List.mem_of_getElem? (i := 29) rfl)), rfl, hnm⟩) (hw _ (List.mem_of_getElem? (i := 13) rfl)) (ty := (.object "com/example/passwarden/passwarden/core/PasswordHistory")) (by decide) rfl rfl (g := (mkF m 28 #[.val (.ref a1), .val (.int (0 : Int32)), .val .null, .val .null, .val .null, .val .null] [.null, (.ref a1)])) rfl rfl (hb hby d3_28)
  have Fw12 := ((((F_history_a1.other W8 (Or.inr (slot_ne (Or.inr (hw _ (List.mem_of_getElem? (i := 29) rfl))) (Or.inr (hw _ (List.mem_of_getElem? (i := 21) rfl))) (by decide) (t := (.object "com/example/passwarden/passwarden/core/PasswordHistory")) (t' := .boolean) (by decide) (by decide)))).other W9 (Or.inr (slot_ne (Or.inr (hw _ (List.mem_of_getElem? (i := 29) rfl))) (Or.inr (hw _ (List.mem_of_getElem? (i := 23) rfl))) (by decide) (t := (.object "com/example/passwarden/passwarden/core/PasswordHistory")) (t' := (.object "com/example/passwarden/passwarden/core/PolicyError")) (by decide) (by decide)))).other W10 (Or.inr (slot_ne (Or.inr (hw _ (List.mem_of_getElem? (i := 29) rfl))) (Or.inr (hw _ (List.mem_of_getElem? (i := 25) rfl))) (by decide) (t := (.object "com/example/passwarden/passwarden/core/PasswordHistory")) (t' := (.array .byte)) (by decide) (by decide)))).other W11 (Or.inr (slot_ne (Or.inr (hw _ (List.mem_of_getElem? (i := 29) rfl))) (Or.inr (hw _ (List.mem_of_getElem? (i := 27) rfl))) (by decide) (t := (.object "com/example/passwarden/passwarden/core/PasswordHistory")) (t' := (.object "com/example/passwarden/passwarden/core/AccountState")) (by decide) (by decide)))).same W12
  have K12 : Keep h0 h12 [a1] := K11.wr W12 (Or.inl (List.mem_of_getElem? (i := 0) rfl))
  have N12 := Fr.snoc X12 N11 g_a1
  obtain ⟨fs, hr, hrun, hended, hW, hsame⟩ := X12.leave (v := none) (fun _ => rfl)
  refine ⟨_, _, pre0 _ ?_, hrun, hended, _, _, rfl, ?_, ⟨_, rfl⟩, hW, hsame.mono (by decide) (by decide)⟩
  · show Steps p.tables e below (s₁.setTop (mkF m 0 #[.val (.ref a1), .val (.int (0 : Int32)), .val .null, .val .null, .val .null, .val .null] [])) _
    refine XS.aloadN X0.here hx rfl (hb hby d3_0) rfl rfl ?_
    show Steps p.tables e below (s₁.setTop (mkF m 1 #[.val (.ref a1), .val (.int (0 : Int32)), .val .null, .val .null, .val .null, .val .null] [(.ref a1)])) _
    refine st7 _ ?_
    show Steps p.tables e below (T7.setTop (mkF m 4 #[.val (.ref a1), .val (.int (0 : Int32)), .val .null, .val .null, .val .null, .val .null] [])) _
    refine XS.aloadN X7.here hx rfl (hb hby d3_4) rfl rfl ?_
    show Steps p.tables e below (T7.setTop (mkF m 5 #[.val (.ref a1), .val (.int (0 : Int32)), .val .null, .val .null, .val .null, .val .null] [(.ref a1)])) _
    refine XS.iloadN X7.here hx rfl (hb hby d3_5) rfl ?_
    show Steps p.tables e below (T7.setTop (mkF m 6 #[.val (.ref a1), .val (.int (0 : Int32)), .val .null, .val .null, .val .null, .val .null] [(.int (0 : Int32)), (.ref a1)])) _
    refine st8 _ ?_
    show Steps p.tables e below (T8.setTop (mkF m 9 #[.val (.ref a1), .val (.int (0 : Int32)), .val .null, .val .null, .val .null, .val .null] [])) _
    refine XS.aloadN X8.here hx rfl (hb hby d3_9) rfl rfl ?_
    show Steps p.tables e below (T8.setTop (mkF m 10 #[.val (.ref a1), .val (.int (0 : Int32)), .val .null, .val .null, .val .null, .val .null] [(.ref a1)])) _
    refine XS.aloadN X8.here hx rfl (hb hby d3_10) rfl rfl ?_
    show Steps p.tables e below (T8.setTop (mkF m 11 #[.val (.ref a1), .val (.int (0 : Int32)), .val .null, .val .null, .val .null, .val .null] [.null, (.ref a1)])) _
    refine st9 _ ?_
    show Steps p.tables e below (T9.setTop (mkF m 14 #[.val (.ref a1), .val (.int (0 : Int32)), .val .null, .val .null, .val .null, .val .null] [])) _
    refine XS.aloadN X9.here hx rfl (hb hby d3_14) rfl rfl ?_
    show Steps p.tables e below (T9.setTop (mkF m 15 #[.val (.ref a1), .val (.int (0 : Int32)), .val .null, .val .null, .val .null, .val .null] [(.ref a1)])) _
    refine XS.aloadN X9.here hx rfl (hb hby d3_15) rfl rfl ?_
    show Steps p.tables e below (T9.setTop (mkF m 16 #[.val (.ref a1), .val (.int (0 : Int32)), .val .null, .val .null, .val .null, .val .null] [.null, (.ref a1)])) _
    refine st10 _ ?_
    show Steps p.tables e below (T10.setTop (mkF m 19 #[.val (.ref a1), .val (.int (0 : Int32)), .val .null, .val .null, .val .null, .val .null] [])) _
    refine XS.aloadN X10.here hx rfl (hb hby d3_19) rfl rfl ?_
    show Steps p.tables e below (T10.setTop (mkF m 20 #[.val (.ref a1), .val (.int (0 : Int32)), .val .null, .val .null, .val .null, .val .null] [(.ref a1)])) _
    refine XS.aload X10.here hx rfl (hb hby d3_20) rfl rfl ?_
    show Steps p.tables e below (T10.setTop (mkF m 22 #[.val (.ref a1), .val (.int (0 : Int32)), .val .null, .val .null, .val .null, .val .null] [.null, (.ref a1)])) _
    refine st11 _ ?_
    show Steps p.tables e below (T11.setTop (mkF m 25 #[.val (.ref a1), .val (.int (0 : Int32)), .val .null, .val .null, .val .null, .val .null] [])) _
    refine XS.aloadN X11.here hx rfl (hb hby d3_25) rfl rfl ?_
    show Steps p.tables e below (T11.setTop (mkF m 26 #[.val (.ref a1), .val (.int (0 : Int32)), .val .null, .val .null, .val .null, .val .null] [(.ref a1)])) _
    refine XS.aload X11.here hx rfl (hb hby d3_26) rfl rfl ?_
    show Steps p.tables e below (T11.setTop (mkF m 28 #[.val (.ref a1), .val (.int (0 : Int32)), .val .null, .val .null, .val .null, .val .null] [.null, (.ref a1)])) _
    refine st12 _ ?_
    show Steps p.tables e below (T12.setTop (mkF m 31 #[.val (.ref a1), .val (.int (0 : Int32)), .val .null, .val .null, .val .null, .val .null] [])) _
    exact X12.returnOut hx Bd.returns (hb hby d3_31) hr
  · show own_QI .null Z a1 h0 n0 _ T12.heap _
    rw [e12]
    exact ⟨rfl, N12, K12, (((((E_a1.wr W8).wr W9).wr W10).wr W11).wr W12), ((((Fw8.other W9 (Or.inr (slot_ne (Or.inr (hw _ (List.mem_of_getElem? (i := 21) rfl))) (Or.inr (hw _ (List.mem_of_getElem? (i := 23) rfl))) (by decide) (t := .boolean) (t' := (.object "com/example/passwarden/passwarden/core/PolicyError")) (by decide) (by decide)))).other W10 (Or.inr (slot_ne (Or.inr (hw _ (List.mem_of_getElem? (i := 21) rfl))) (Or.inr (hw _ (List.mem_of_getElem? (i := 25) rfl))) (by decide) (t := .boolean) (t' := (.array .byte)) (by decide) (by decide)))).other W11 (Or.inr (slot_ne (Or.inr (hw _ (List.mem_of_getElem? (i := 21) rfl))) (Or.inr (hw _ (List.mem_of_getElem? (i := 27) rfl))) (by decide) (t := .boolean) (t' := (.object "com/example/passwarden/passwarden/core/AccountState")) (by decide) (by decide)))).other W12 (Or.inr (slot_ne (Or.inr (hw _ (List.mem_of_getElem? (i := 21) rfl))) (Or.inr (hw _ (List.mem_of_getElem? (i := 29) rfl))) (by decide) (t := .boolean) (t' := (.object "com/example/passwarden/passwarden/core/PasswordHistory")) (by decide) (by decide)))), (((Fw9.other W10 (Or.inr (slot_ne (Or.inr (hw _ (List.mem_of_getElem? (i := 23) rfl))) (Or.inr (hw _ (List.mem_of_getElem? (i := 25) rfl))) (by decide) (t := (.object "com/example/passwarden/passwarden/core/PolicyError")) (t' := (.array .byte)) (by decide) (by decide)))).other W11 (Or.inr (slot_ne (Or.inr (hw _ (List.mem_of_getElem? (i := 23) rfl))) (Or.inr (hw _ (List.mem_of_getElem? (i := 27) rfl))) (by decide) (t := (.object "com/example/passwarden/passwarden/core/PolicyError")) (t' := (.object "com/example/passwarden/passwarden/core/AccountState")) (by decide) (by decide)))).other W12 (Or.inr (slot_ne (Or.inr (hw _ (List.mem_of_getElem? (i := 23) rfl))) (Or.inr (hw _ (List.mem_of_getElem? (i := 29) rfl))) (by decide) (t := (.object "com/example/passwarden/passwarden/core/PolicyError")) (t' := (.object "com/example/passwarden/passwarden/core/PasswordHistory")) (by decide) (by decide)))), ((Fw10.other W11 (Or.inr (slot_ne (Or.inr (hw _ (List.mem_of_getElem? (i := 25) rfl))) (Or.inr (hw _ (List.mem_of_getElem? (i := 27) rfl))) (by decide) (t := (.array .byte)) (t' := (.object "com/example/passwarden/passwarden/core/AccountState")) (by decide) (by decide)))).other W12 (Or.inr (slot_ne (Or.inr (hw _ (List.mem_of_getElem? (i := 25) rfl))) (Or.inr (hw _ (List.mem_of_getElem? (i := 29) rfl))) (by decide) (t := (.array .byte)) (t' := (.object "com/example/passwarden/passwarden/core/PasswordHistory")) (by decide) (by decide)))), (Fw11.other W12 (Or.inr (slot_ne (Or.inr (hw _ (List.mem_of_getElem? (i := 27) rfl))) (Or.inr (hw _ (List.mem_of_getElem? (i := 29) rfl))) (by decide) (t := (.object "com/example/passwarden/passwarden/core/AccountState")) (t' := (.object "com/example/passwarden/passwarden/core/PasswordHistory")) (by decide) (by decide)))), Fw12⟩
set_option maxRecDepth 65536 in
set_option maxHeartbeats 40000000 in
theorem own_refR (l : Launch) (Z : State) (a0 : Array Value) (hw : ∀ d ∈ tables_1, d.before a0 Z = true) (ws : List Jvm.Cond) (w : Addr) (h0 : Heap) (n0 : Nat) (Z0 : n0 ≤ h0.size) :
    MetFree l (⟨"com/example/passwarden/passwarden/core/ChangeDecision", "refused", "(Lcom/example/passwarden/passwarden/core/PolicyError;)Lcom/example/passwarden/passwarden/core/ChangeDecision;"⟩ : MethodName) (head1 (Jvm.Cond.code (⟨"com/example/passwarden/passwarden/core/ChangeDecision", "refused", "(Lcom/example/passwarden/passwarden/core/PolicyError;)Lcom/example/passwarden/passwarden/core/ChangeDecision;"⟩ : MethodName) prog_4_method_3_code 1 (some (.object "com/example/passwarden/passwarden/core/ChangeDecision")) :: ws) ({ frames := 2, cells := 1, slots := 5, locals := 30 } : Room)) (fun a U => a = #[(.ref w)] ∧ Z.Warmed39 U.vm ∧ U.heap = h0) (fun _ _ _ _ _ => True) (fun _ U o U' => ∃ v L, o = .returned v ∧ own_QR (.ref w) Z h0 n0 v U'.heap L ∧ FrameEnd U o U' L ({ frames := 2, cells := 1, slots := 5, locals := 30 } : Room).cells ({ frames := 2, cells := 1, slots := 5, locals := 30 } : Room).slots) := by
  refine MetFree.of_bodySF (plainFor_of_name own_pnC) hisR ?_
  intro p e s m args below meth c s₁ Bd hml0 hP hK
  obtain ⟨rfl, hZ, hh⟩ := hP
  have hx := Bd.exec
  have hby := Bd.bytes
  have hml : c.maxLocals = 1 := hml0
  have hown : s.vm.findClass "com/example/passwarden/passwarden/core/ChangeDecision" = some m.cls := findClass_of_methodNamed Bd.named
  have hnm := (name_of_methodNamed Bd.named Bd.method).1
  have X0 : Stand p l e ({ frames := 2, cells := 1, slots := 5, locals := 30 } : Room) s m #[(.ref w)] below meth c s₁ [] 0 0 := Stand.of_body Bd
  have e0 : s₁.heap = h0 := by rw [← hh, Bd.state]; rfl
  have N0 := Fr.nil n0
  have pre0 : ∀ t, Steps p.tables e below (s₁.setTop (mkF m 0 #[.val (.ref w)] [])) t → Steps p.tables e below (s₁.setTop (entryFrame m #[(.ref w)] 1)) t := fun t k => castTop (by first | (simp [entryFrame, mkF, argsToLocals, Value.category]; done) | rfl) k
  obtain ⟨T2, h2, X2, e2, E2, A2, D2, -, st2⟩ := newO X0 hx hZ hown (hw _ (List.mem_of_getElem? (i := 12) rfl)) (hw _ (List.mem_of_getElem? (i := 13) rfl)) (hw _ (List.mem_of_getElem? (i := 10) rfl)) e0 (g := (mkF m 0 #[.val (.ref w)] [])) rfl (hb hby d2_0) (by decide) (by decide)
  have F_accepted_b2 : Fld Z h2 h0.size "com/example/passwarden/passwarden/core/ChangeDecision" "accepted" "Z" (.int (0 : Int32)) := D2 (Or.inr (hw _ (List.mem_of_getElem? (i := 21) rfl))) (ty := .boolean) (by decide)
  have F_error_b2 : Fld Z h2 h0.size "com/example/passwarden/passwarden/core/ChangeDecision" "error" "Lcom/example/passwarden/passwarden/core/PolicyError;" .null := D2 (Or.inr (hw _ (List.mem_of_getElem? (i := 23) rfl))) (ty := (.object "com/example/passwarden/passwarden/core/PolicyError")) (by decide)
  have F_storedPassword_b2 : Fld Z h2 h0.size "com/example/passwarden/passwarden/core/ChangeDecision" "storedPassword" "[B" .null := D2 (Or.inr (hw _ (List.mem_of_getElem? (i := 25) rfl))) (ty := (.array .byte)) (by decide)
  have F_state_b2 : Fld Z h2 h0.size "com/example/passwarden/passwarden/core/ChangeDecision" "state" "Lcom/example/passwarden/passwarden/core/AccountState;" .null := D2 (Or.inr (hw _ (List.mem_of_getElem? (i := 27) rfl))) (ty := (.object "com/example/passwarden/passwarden/core/AccountState")) (by decide)
  have F_history_b2 : Fld Z h2 h0.size "com/example/passwarden/passwarden/core/ChangeDecision" "history" "Lcom/example/passwarden/passwarden/core/PasswordHistory;" .null := D2 (Or.inr (hw _ (List.mem_of_getElem? (i := 29) rfl))) (ty := (.object "com/example/passwarden/passwarden/core/PasswordHistory")) (by decide)
  have E_b2 := A2
  obtain ⟨_, _, ⟨T3, L3, k3, n3⟩, -, X3, ⟨Lc3, hQ3, l3, y3, z3⟩, st3⟩ := X2.specialBack hx (y := (⟨"com/example/passwarden/passwarden/core/ChangeDecision", "<init>", "(ZLcom/example/passwarden/passwarden/core/PolicyError;[BLcom/example/passwarden/passwarden/core/AccountState;Lcom/example/passwarden/passwarden/core/PasswordHistory;)V"⟩ : MethodName)) rfl hown (mvT hZ (hw _ (List.mem_of_getElem? (i := 14) rfl))) (mvT hZ (hw _ (List.mem_of_getElem? (i := 15) rfl))) (mvT hZ (hw _ (List.mem_of_getElem? (i := 16) rfl))) (by decide) (backOf (W := 1) (own_initR l Z a0 hw [] h0.size w _ _ _ _ _ h2 n0 (Nat.le_trans Z0 E2.1) E_b2 F_accepted_b2 Z0 F_error_b2 F_storedPassword_b2 F_state_b2 F_history_b2) hZ (hw _ (List.mem_of_getElem? (i := 16) rfl)) (hw _ (List.mem_of_getElem? (i := 10) rfl)) (by decide) (by decide)) (g := (mkF m 9 #[.val (.ref w)] [.null, .null, .null, (.ref w), (.int (0 : Int32)), (.ref h0.size), (.ref h0.size)])) rfl (by rw [hml]; rfl) (Steps.refl _) (a := h0.size) (argsL := [(.int (0 : Int32)), (.ref w), .null, .null, .null]) (rest := [(.ref h0.size)]) (lenOf pd_2_2 rfl) rfl (by show 2 * 0 + _ ≤ _; exact Nat.le_of_eq rfl) (hb hby d2_9) (fun _ _ => ⟨rfl, e2, (by decide : 1 + 0 ≤ _), (by decide : 5 + 0 ≤ _)⟩)
  dsimp only [Pt.U, Pt.locs, Pt.cells, Pt.slots] at X3 l3 y3 z3 st3 hQ3
  subst l3 y3 z3
  obtain ⟨rfl, N3q, -, O3⟩ := hQ3
  have N3 := Fr.app N0 N3q
  obtain ⟨fs, hr, hrun, hended, hW, hsame⟩ := X3.leave (v := some (.ref h0.size)) (fun h => by rw [Bd.returns] at h; cases h)
  refine ⟨_, _, pre0 _ ?_, hrun, hended, _, _, rfl, ?_, ⟨_, rfl⟩, hW, hsame.mono (by decide) (by decide)⟩
  · show Steps p.tables e below (s₁.setTop (mkF m 0 #[.val (.ref w)] [])) _
    refine st2 _ ?_
    show Steps p.tables e below (T2.setTop (mkF m 3 #[.val (.ref w)] [(.ref h0.size)])) _
    refine XS.dup X2.here hx rfl (hb hby d2_3) rfl rfl ?_
    show Steps p.tables e below (T2.setTop (mkF m 4 #[.val (.ref w)] [(.ref h0.size), (.ref h0.size)])) _
    refine XS.iconst X2.here hx rfl (hb hby d2_4) ?_
    show Steps p.tables e below (T2.setTop (mkF m 5 #[.val (.ref w)] [(.int (0 : Int32)), (.ref h0.size), (.ref h0.size)])) _
    refine XS.aloadN X2.here hx rfl (hb hby d2_5) rfl rfl ?_
    show Steps p.tables e below (T2.setTop (mkF m 6 #[.val (.ref w)] [(.ref w), (.int (0 : Int32)), (.ref h0.size), (.ref h0.size)])) _
    refine XS.aconstNull X2.here hx rfl (hb hby d2_6) ?_
    show Steps p.tables e below (T2.setTop (mkF m 7 #[.val (.ref w)] [.null, (.ref w), (.int (0 : Int32)), (.ref h0.size), (.ref h0.size)])) _
    refine XS.aconstNull X2.here hx rfl (hb hby d2_7) ?_
    show Steps p.tables e below (T2.setTop (mkF m 8 #[.val (.ref w)] [.null, .null, (.ref w), (.int (0 : Int32)), (.ref h0.size), (.ref h0.size)])) _
    refine XS.aconstNull X2.here hx rfl (hb hby d2_8) ?_
    show Steps p.tables e below (T2.setTop (mkF m 9 #[.val (.ref w)] [.null, .null, .null, (.ref w), (.int (0 : Int32)), (.ref h0.size), (.ref h0.size)])) _
    refine st3.trans ?_
    show Steps p.tables e below (T3.setTop (mkF m 12 #[.val (.ref w)] [(.ref h0.size)])) _
    jvm_step X3.here [X3.here.top, hx, (hb hby d2_12), X3.method', Bd.returns, Value.isRef, FieldType.isReference]
    first | (intro acts; rw [hr _ acts rfl rfl rfl]) | rw [hr _ _ rfl rfl rfl]
    exact Steps.refl _
  · show own_QR (.ref w) Z h0 n0 _ T3.heap _
    exact ⟨rfl, N3, O3⟩
set_option maxRecDepth 65536 in
set_option maxHeartbeats 40000000 in
theorem own_refN (l : Launch) (Z : State) (a0 : Array Value) (hw : ∀ d ∈ tables_1, d.before a0 Z = true) (ws : List Jvm.Cond) (h0 : Heap) (n0 : Nat) (Z0 : n0 ≤ h0.size) :
    MetFree l (⟨"com/example/passwarden/passwarden/core/ChangeDecision", "refused", "(Lcom/example/passwarden/passwarden/core/PolicyError;)Lcom/example/passwarden/passwarden/core/ChangeDecision;"⟩ : MethodName) (head1 (Jvm.Cond.code (⟨"com/example/passwarden/passwarden/core/ChangeDecision", "refused", "(Lcom/example/passwarden/passwarden/core/PolicyError;)Lcom/example/passwarden/passwarden/core/ChangeDecision;"⟩ : MethodName) prog_4_method_3_code 1 (some (.object "com/example/passwarden/passwarden/core/ChangeDecision")) :: ws) ({ frames := 2, cells := 1, slots := 5, locals := 30 } : Room)) (fun a U => a = #[.null] ∧ Z.Warmed39 U.vm ∧ U.heap = h0) (fun _ _ _ _ _ => True) (fun _ U o U' => ∃ v L, o = .returned v ∧ own_QR .null Z h0 n0 v U'.heap L ∧ FrameEnd U o U' L ({ frames := 2, cells := 1, slots := 5, locals := 30 } : Room).cells ({ frames := 2, cells := 1, slots := 5, locals := 30 } : Room).slots) := by
  refine MetFree.of_bodySF (plainFor_of_name own_pnC) hisR ?_
  intro p e s m args below meth c s₁ Bd hml0 hP hK
  obtain ⟨rfl, hZ, hh⟩ := hP
  have hx := Bd.exec
  have hby := Bd.bytes
  have hml : c.maxLocals = 1 := hml0
  have hown : s.vm.findClass "com/example/passwarden/passwarden/core/ChangeDecision" = some m.cls := findClass_of_methodNamed Bd.named
  have hnm := (name_of_methodNamed Bd.named Bd.method).1
  have X0 : Stand p l e ({ frames := 2, cells := 1, slots := 5, locals := 30 } : Room) s m #[.null] below meth c s₁ [] 0 0 := Stand.of_body Bd
  have e0 : s₁.heap = h0 := by rw [← hh, Bd.state]; rfl
  have N0 := Fr.nil n0
  have pre0 : ∀ t, Steps p.tables e below (s₁.setTop (mkF m 0 #[.val .null] [])) t → Steps p.tables e below (s₁.setTop (entryFrame m #[.null] 1)) t := fun t k => castTop (by first | (simp [entryFrame, mkF, argsToLocals, Value.category]; done) | rfl) k
  obtain ⟨T2, h2, X2, e2, E2, A2, D2, -, st2⟩ := newO X0 hx hZ hown (hw _ (List.mem_of_getElem? (i := 12) rfl)) (hw _ (List.mem_of_getElem? (i := 13) rfl)) (hw _ (List.mem_of_getElem? (i := 10) rfl)) e0 (g := (mkF m 0 #[.val .null] [])) rfl (hb hby d2_0) (by decide) (by decide)
  have F_accepted_b2 : Fld Z h2 h0.size "com/example/passwarden/passwarden/core/ChangeDecision" "accepted" "Z" (.int (0 : Int32)) := D2 (Or.inr (hw _ (List.mem_of_getElem? (i := 21) rfl))) (ty := .boolean) (by decide)
  have F_error_b2 : Fld Z h2 h0.size "com/example/passwarden/passwarden/core/ChangeDecision" "error" "Lcom/example/passwarden/passwarden/core/PolicyError;" .null := D2 (Or.inr (hw _ (List.mem_of_getElem? (i := 23) rfl))) (ty := (.object "com/example/passwarden/passwarden/core/PolicyError")) (by decide)
  have F_storedPassword_b2 : Fld Z h2 h0.size "com/example/passwarden/passwarden/core/ChangeDecision" "storedPassword" "[B" .null := D2 (Or.inr (hw _ (List.mem_of_getElem? (i := 25) rfl))) (ty := (.array .byte)) (by decide)
  have F_state_b2 : Fld Z h2 h0.size "com/example/passwarden/passwarden/core/ChangeDecision" "state" "Lcom/example/passwarden/passwarden/core/AccountState;" .null := D2 (Or.inr (hw _ (List.mem_of_getElem? (i := 27) rfl))) (ty := (.object "com/example/passwarden/passwarden/core/AccountState")) (by decide)
  have F_history_b2 : Fld Z h2 h0.size "com/example/passwarden/passwarden/core/ChangeDecision" "history" "Lcom/example/passwarden/passwarden/core/PasswordHistory;" .null := D2 (Or.inr (hw _ (List.mem_of_getElem? (i := 29) rfl))) (ty := (.object "com/example/passwarden/passwarden/core/PasswordHistory")) (by decide)
  have E_b2 := A2
  obtain ⟨_, _, ⟨T3, L3, k3, n3⟩, -, X3, ⟨Lc3, hQ3, l3, y3, z3⟩, st3⟩ := X2.specialBack hx (y := (⟨"com/example/passwarden/passwarden/core/ChangeDecision", "<init>", "(ZLcom/example/passwarden/passwarden/core/PolicyError;[BLcom/example/passwarden/passwarden/core/AccountState;Lcom/example/passwarden/passwarden/core/PasswordHistory;)V"⟩ : MethodName)) rfl hown (mvT hZ (hw _ (List.mem_of_getElem? (i := 14) rfl))) (mvT hZ (hw _ (List.mem_of_getElem? (i := 15) rfl))) (mvT hZ (hw _ (List.mem_of_getElem? (i := 16) rfl))) (by decide) (backOf (W := 1) (own_initN l Z a0 hw [] h0.size _ _ _ _ _ h2 n0 (Nat.le_trans Z0 E2.1) E_b2 F_accepted_b2 Z0 F_error_b2 F_storedPassword_b2 F_state_b2 F_history_b2) hZ (hw _ (List.mem_of_getElem? (i := 16) rfl)) (hw _ (List.mem_of_getElem? (i := 10) rfl)) (by decide) (by decide)) (g := (mkF m 9 #[.val .null] [.null, .null, .null, .null, (.int (0 : Int32)), (.ref h0.size), (.ref h0.size)])) rfl (by rw [hml]; rfl) (Steps.refl _) (a := h0.size) (argsL := [(.int (0 : Int32)), .null, .null, .null, .null]) (rest := [(.ref h0.size)]) (lenOf pd_2_2 rfl) rfl (by show 2 * 0 + _ ≤ _; exact Nat.le_of_eq rfl) (hb hby d2_9) (fun _ _ => ⟨rfl, e2, (by decide : 1 + 0 ≤ _), (by decide : 5 + 0 ≤ _)⟩)
  dsimp only [Pt.U, Pt.locs, Pt.cells, Pt.slots] at X3 l3 y3 z3 st3 hQ3
  subst l3 y3 z3
  obtain ⟨rfl, N3q, -, O3⟩ := hQ3
  have N3 := Fr.app N0 N3q
  obtain ⟨fs, hr, hrun, hended, hW, hsame⟩ := X3.leave (v := some (.ref h0.size)) (fun h => by rw [Bd.returns] at h; cases h)
  refine ⟨_, _, pre0 _ ?_, hrun, hended, _, _, rfl, ?_, ⟨_, rfl⟩, hW, hsame.mono (by decide) (by decide)⟩
  · show Steps p.tables e below (s₁.setTop (mkF m 0 #[.val .null] [])) _
    refine st2 _ ?_
    show Steps p.tables e below (T2.setTop (mkF m 3 #[.val .null] [(.ref h0.size)])) _
    refine XS.dup X2.here hx rfl (hb hby d2_3) rfl rfl ?_
    show Steps p.tables e below (T2.setTop (mkF m 4 #[.val .null] [(.ref h0.size), (.ref h0.size)])) _
    refine XS.iconst X2.here hx rfl (hb hby d2_4) ?_
    show Steps p.tables e below (T2.setTop (mkF m 5 #[.val .null] [(.int (0 : Int32)), (.ref h0.size), (.ref h0.size)])) _
    refine XS.aloadN X2.here hx rfl (hb hby d2_5) rfl rfl ?_
    show Steps p.tables e below (T2.setTop (mkF m 6 #[.val .null] [.null, (.int (0 : Int32)), (.ref h0.size), (.ref h0.size)])) _
    refine XS.aconstNull X2.here hx rfl (hb hby d2_6) ?_
    show Steps p.tables e below (T2.setTop (mkF m 7 #[.val .null] [.null, .null, (.int (0 : Int32)), (.ref h0.size), (.ref h0.size)])) _
    refine XS.aconstNull X2.here hx rfl (hb hby d2_7) ?_
    show Steps p.tables e below (T2.setTop (mkF m 8 #[.val .null] [.null, .null, .null, (.int (0 : Int32)), (.ref h0.size), (.ref h0.size)])) _
    refine XS.aconstNull X2.here hx rfl (hb hby d2_8) ?_
    show Steps p.tables e below (T2.setTop (mkF m 9 #[.val .null] [.null, .null, .null, .null, (.int (0 : Int32)), (.ref h0.size), (.ref h0.size)])) _
    refine st3.trans ?_
    show Steps p.tables e below (T3.setTop (mkF m 12 #[.val .null] [(.ref h0.size)])) _
    jvm_step X3.here [X3.here.top, hx, (hb hby d2_12), X3.method', Bd.returns, Value.isRef, FieldType.isReference]
    first | (intro acts; rw [hr _ acts rfl rfl rfl]) | rw [hr _ _ rfl rfl rfl]
    exact Steps.refl _
  · show own_QR .null Z h0 n0 _ T3.heap _
    exact ⟨rfl, N3, O3⟩
set_option maxRecDepth 65536 in
set_option maxHeartbeats 40000000 in
theorem own_isAccepted (l : Launch) (Z : State) (a0 : Array Value) (hw : ∀ d ∈ tables_1, d.before a0 Z = true) (ws : List Jvm.Cond) (a1 : Addr) (h0 : Heap) (n0 : Nat) (F1 : Fld Z h0 a1 "com/example/passwarden/passwarden/core/ChangeDecision" "accepted" "Z" (.int (0 : Int32))) :
    MetFree l (⟨"com/example/passwarden/passwarden/core/ChangeDecision", "isAccepted", "()Z"⟩ : MethodName) (head1 (Jvm.Cond.code (⟨"com/example/passwarden/passwarden/core/ChangeDecision", "isAccepted", "()Z"⟩ : MethodName) prog_4_method_4_code 1 (some .boolean) :: ws) ({ frames := 0, cells := 0, slots := 0, locals := 0 } : Room)) (fun a U => a = #[(.ref a1)] ∧ Z.Warmed39 U.vm ∧ U.heap = h0) (fun _ _ _ _ _ => True) (fun _ U o U' => ∃ v L, o = .returned v ∧ own_Q (.int (0 : Int32)) h0 n0 v U'.heap L ∧ FrameEnd U o U' L ({ frames := 0, cells := 0, slots := 0, locals := 0 } : Room).cells ({ frames := 0, cells := 0, slots := 0, locals := 0 } : Room).slots) := by
  refine MetFree.of_bodySF (plainFor_of_name own_pn0) hisR ?_
  intro p e s m args below meth c s₁ Bd hml0 hP hK
  obtain ⟨rfl, hZ, hh⟩ := hP
  have hx := Bd.exec
  have hby := Bd.bytes
  have hml : c.maxLocals = 1 := hml0
  have hown : s.vm.findClass "com/example/passwarden/passwarden/core/ChangeDecision" = some m.cls := findClass_of_methodNamed Bd.named
  have X0 : Stand p l e ({ frames := 0, cells := 0, slots := 0, locals := 0 } : Room) s m #[(.ref a1)] below meth c s₁ [] 0 0 := Stand.of_body Bd
  have e0 : s₁.heap = h0 := by rw [← hh, Bd.state]; rfl
  have N0 := Fr.nil n0
  have pre0 : ∀ t, Steps p.tables e below (s₁.setTop (mkF m 0 #[.val (.ref a1)] [])) t → Steps p.tables e below (s₁.setTop (entryFrame m #[(.ref a1)] 1)) t := fun t k => castTop (by first | (simp [entryFrame, mkF, argsToLocals, Value.category]; done) | rfl) k
  obtain ⟨T1, X1, e1, st1⟩ := getF X0 hx hZ hown (host := "") (Or.inl (hw _ (List.mem_of_getElem? (i := 20) rfl))) Via.refl e0 F1 (g := (mkF m 1 #[.val (.ref a1)] [(.ref a1)])) rfl rfl (hb hby d5_1)
  obtain ⟨fs, hr, hrun, hended, hW, hsame⟩ := X1.leave (v := some (.int (0 : Int32))) (fun h => by rw [Bd.returns] at h; cases h)
  refine ⟨_, _, pre0 _ ?_, hrun, hended, _, _, rfl, ?_, ⟨_, rfl⟩, hW, hsame.mono (by decide) (by decide)⟩
  · show Steps p.tables e below (s₁.setTop (mkF m 0 #[.val (.ref a1)] [])) _
    refine XS.aloadN X0.here hx rfl (hb hby d5_0) rfl rfl ?_
    show Steps p.tables e below (s₁.setTop (mkF m 1 #[.val (.ref a1)] [(.ref a1)])) _
    refine st1 _ ?_
    show Steps p.tables e below (T1.setTop (mkF m 4 #[.val (.ref a1)] [(.int (0 : Int32))])) _
    exact retN X1 hx (t := .boolean) Bd.returns (by simp) (hb hby d5_4) hr
  · show own_Q _ h0 n0 _ T1.heap _
    exact ⟨rfl, N0, e1⟩
set_option maxRecDepth 65536 in
set_option maxHeartbeats 40000000 in
theorem own_getErrorR (l : Launch) (Z : State) (a0 : Array Value) (hw : ∀ d ∈ tables_1, d.before a0 Z = true) (ws : List Jvm.Cond) (a1 : Addr) (w : Addr) (h0 : Heap) (n0 : Nat) (F1 : Fld Z h0 a1 "com/example/passwarden/passwarden/core/ChangeDecision" "error" "Lcom/example/passwarden/passwarden/core/PolicyError;" (.ref w)) :
    MetFree l (⟨"com/example/passwarden/passwarden/core/ChangeDecision", "getError", "()Lcom/example/passwarden/passwarden/core/PolicyError;"⟩ : MethodName) (head1 (Jvm.Cond.code (⟨"com/example/passwarden/passwarden/core/ChangeDecision", "getError", "()Lcom/example/passwarden/passwarden/core/PolicyError;"⟩ : MethodName) prog_4_method_5_code 1 (some (.object "com/example/passwarden/passwarden/core/PolicyError")) :: ws) ({ frames := 0, cells := 0, slots := 0, locals := 0 } : Room)) (fun a U => a = #[(.ref a1)] ∧ Z.Warmed39 U.vm ∧ U.heap = h0) (fun _ _ _ _ _ => True) (fun _ U o U' => ∃ v L, o = .returned v ∧ own_Q (.ref w) h0 n0 v U'.heap L ∧ FrameEnd U o U' L ({ frames := 0, cells := 0, slots := 0, locals := 0 } : Room).cells ({ frames := 0, cells := 0, slots := 0, locals := 0 } : Room).slots) := by
  refine MetFree.of_bodySF (plainFor_of_name own_pn0) hisR ?_
  intro p e s m args below meth c s₁ Bd hml0 hP hK
  obtain ⟨rfl, hZ, hh⟩ := hP
  have hx := Bd.exec
  have hby := Bd.bytes
  have hml : c.maxLocals = 1 := hml0
  have hown : s.vm.findClass "com/example/passwarden/passwarden/core/ChangeDecision" = some m.cls := findClass_of_methodNamed Bd.named
  have X0 : Stand p l e ({ frames := 0, cells := 0, slots := 0, locals := 0 } : Room) s m #[(.ref a1)] below meth c s₁ [] 0 0 := Stand.of_body Bd
  have e0 : s₁.heap = h0 := by rw [← hh, Bd.state]; rfl
  have N0 := Fr.nil n0
  have pre0 : ∀ t, Steps p.tables e below (s₁.setTop (mkF m 0 #[.val (.ref a1)] [])) t → Steps p.tables e below (s₁.setTop (entryFrame m #[(.ref a1)] 1)) t := fun t k => castTop (by first | (simp [entryFrame, mkF, argsToLocals, Value.category]; done) | rfl) k
  obtain ⟨T1, X1, e1, st1⟩ := getF X0 hx hZ hown (host := "") (Or.inl (hw _ (List.mem_of_getElem? (i := 22) rfl))) Via.refl e0 F1 (g := (mkF m 1 #[.val (.ref a1)] [(.ref a1)])) rfl rfl (hb hby d6_1)
  obtain ⟨fs, hr, hrun, hended, hW, hsame⟩ := X1.leave (v := some (.ref w)) (fun h => by rw [Bd.returns] at h; cases h)
  refine ⟨_, _, pre0 _ ?_, hrun, hended, _, _, rfl, ?_, ⟨_, rfl⟩, hW, hsame.mono (by decide) (by decide)⟩
  · show Steps p.tables e below (s₁.setTop (mkF m 0 #[.val (.ref a1)] [])) _
    refine XS.aloadN X0.here hx rfl (hb hby d6_0) rfl rfl ?_
    show Steps p.tables e below (s₁.setTop (mkF m 1 #[.val (.ref a1)] [(.ref a1)])) _
    refine st1 _ ?_
    show Steps p.tables e below (T1.setTop (mkF m 4 #[.val (.ref a1)] [(.ref w)])) _
    exact retOut X1 hx Bd.returns rfl (Or.inr (Or.inr (Or.inr (Or.inr ⟨rfl, rfl, rfl⟩)))) (hb hby d6_4) hr
  · show own_Q _ h0 n0 _ T1.heap _
    exact ⟨rfl, N0, e1⟩
set_option maxRecDepth 65536 in
set_option maxHeartbeats 40000000 in
theorem own_getErrorN (l : Launch) (Z : State) (a0 : Array Value) (hw : ∀ d ∈ tables_1, d.before a0 Z = true) (ws : List Jvm.Cond) (a1 : Addr) (h0 : Heap) (n0 : Nat) (F1 : Fld Z h0 a1 "com/example/passwarden/passwarden/core/ChangeDecision" "error" "Lcom/example/passwarden/passwarden/core/PolicyError;" .null) :
    MetFree l (⟨"com/example/passwarden/passwarden/core/ChangeDecision", "getError", "()Lcom/example/passwarden/passwarden/core/PolicyError;"⟩ : MethodName) (head1 (Jvm.Cond.code (⟨"com/example/passwarden/passwarden/core/ChangeDecision", "getError", "()Lcom/example/passwarden/passwarden/core/PolicyError;"⟩ : MethodName) prog_4_method_5_code 1 (some (.object "com/example/passwarden/passwarden/core/PolicyError")) :: ws) ({ frames := 0, cells := 0, slots := 0, locals := 0 } : Room)) (fun a U => a = #[(.ref a1)] ∧ Z.Warmed39 U.vm ∧ U.heap = h0) (fun _ _ _ _ _ => True) (fun _ U o U' => ∃ v L, o = .returned v ∧ own_Q .null h0 n0 v U'.heap L ∧ FrameEnd U o U' L ({ frames := 0, cells := 0, slots := 0, locals := 0 } : Room).cells ({ frames := 0, cells := 0, slots := 0, locals := 0 } : Room).slots) := by
  refine MetFree.of_bodySF (plainFor_of_name own_pn0) hisR ?_
  intro p e s m args below meth c s₁ Bd hml0 hP hK
  obtain ⟨rfl, hZ, hh⟩ := hP
  have hx := Bd.exec
  have hby := Bd.bytes
  have hml : c.maxLocals = 1 := hml0
  have hown : s.vm.findClass "com/example/passwarden/passwarden/core/ChangeDecision" = some m.cls := findClass_of_methodNamed Bd.named
  have X0 : Stand p l e ({ frames := 0, cells := 0, slots := 0, locals := 0 } : Room) s m #[(.ref a1)] below meth c s₁ [] 0 0 := Stand.of_body Bd
  have e0 : s₁.heap = h0 := by rw [← hh, Bd.state]; rfl
  have N0 := Fr.nil n0
  have pre0 : ∀ t, Steps p.tables e below (s₁.setTop (mkF m 0 #[.val (.ref a1)] [])) t → Steps p.tables e below (s₁.setTop (entryFrame m #[(.ref a1)] 1)) t := fun t k => castTop (by first | (simp [entryFrame, mkF, argsToLocals, Value.category]; done) | rfl) k
  obtain ⟨T1, X1, e1, st1⟩ := getF X0 hx hZ hown (host := "") (Or.inl (hw _ (List.mem_of_getElem? (i := 22) rfl))) Via.refl e0 F1 (g := (mkF m 1 #[.val (.ref a1)] [(.ref a1)])) rfl rfl (hb hby d6_1)
  obtain ⟨fs, hr, hrun, hended, hW, hsame⟩ := X1.leave (v := some .null) (fun h => by rw [Bd.returns] at h; cases h)
  refine ⟨_, _, pre0 _ ?_, hrun, hended, _, _, rfl, ?_, ⟨_, rfl⟩, hW, hsame.mono (by decide) (by decide)⟩
  · show Steps p.tables e below (s₁.setTop (mkF m 0 #[.val (.ref a1)] [])) _
    refine XS.aloadN X0.here hx rfl (hb hby d6_0) rfl rfl ?_
    show Steps p.tables e below (s₁.setTop (mkF m 1 #[.val (.ref a1)] [(.ref a1)])) _
    refine st1 _ ?_
    show Steps p.tables e below (T1.setTop (mkF m 4 #[.val (.ref a1)] [.null])) _
    exact retOut X1 hx Bd.returns rfl (Or.inr (Or.inr (Or.inr (Or.inr ⟨rfl, rfl, rfl⟩)))) (hb hby d6_4) hr
  · show own_Q _ h0 n0 _ T1.heap _
    exact ⟨rfl, N0, e1⟩
set_option maxRecDepth 65536 in
set_option maxHeartbeats 40000000 in
theorem own_getStoredPassword (l : Launch) (Z : State) (a0 : Array Value) (hw : ∀ d ∈ tables_1, d.before a0 Z = true) (ws : List Jvm.Cond) (a1 : Addr) (h0 : Heap) (n0 : Nat) (F1 : Fld Z h0 a1 "com/example/passwarden/passwarden/core/ChangeDecision" "storedPassword" "[B" .null) :
    MetFree l (⟨"com/example/passwarden/passwarden/core/ChangeDecision", "getStoredPassword", "()[B"⟩ : MethodName) (head1 (Jvm.Cond.code (⟨"com/example/passwarden/passwarden/core/ChangeDecision", "getStoredPassword", "()[B"⟩ : MethodName) prog_4_method_6_code 1 (some (.array .byte)) :: ws) ({ frames := 0, cells := 0, slots := 0, locals := 0 } : Room)) (fun a U => a = #[(.ref a1)] ∧ Z.Warmed39 U.vm ∧ U.heap = h0) (fun _ _ _ _ _ => True) (fun _ U o U' => ∃ v L, o = .returned v ∧ own_Q .null h0 n0 v U'.heap L ∧ FrameEnd U o U' L ({ frames := 0, cells := 0, slots := 0, locals := 0 } : Room).cells ({ frames := 0, cells := 0, slots := 0, locals := 0 } : Room).slots) := by
  refine MetFree.of_bodySF (plainFor_of_name own_pn0) hisR ?_
  intro p e s m args below meth c s₁ Bd hml0 hP hK
  obtain ⟨rfl, hZ, hh⟩ := hP
  have hx := Bd.exec
  have hby := Bd.bytes
  have hml : c.maxLocals = 1 := hml0
  have hown : s.vm.findClass "com/example/passwarden/passwarden/core/ChangeDecision" = some m.cls := findClass_of_methodNamed Bd.named
  have X0 : Stand p l e ({ frames := 0, cells := 0, slots := 0, locals := 0 } : Room) s m #[(.ref a1)] below meth c s₁ [] 0 0 := Stand.of_body Bd
  have e0 : s₁.heap = h0 := by rw [← hh, Bd.state]; rfl
  have N0 := Fr.nil n0
  have pre0 : ∀ t, Steps p.tables e below (s₁.setTop (mkF m 0 #[.val (.ref a1)] [])) t → Steps p.tables e below (s₁.setTop (entryFrame m #[(.ref a1)] 1)) t := fun t k => castTop (by first | (simp [entryFrame, mkF, argsToLocals, Value.category]; done) | rfl) k
  obtain ⟨T1, X1, e1, st1⟩ := getF X0 hx hZ hown (host := "") (Or.inl (hw _ (List.mem_of_getElem? (i := 24) rfl))) Via.refl e0 F1 (g := (mkF m 1 #[.val (.ref a1)] [(.ref a1)])) rfl rfl (hb hby d7_1)
  obtain ⟨fs, hr, hrun, hended, hW, hsame⟩ := X1.leave (v := some .null) (fun h => by rw [Bd.returns] at h; cases h)
  refine ⟨_, _, pre0 _ ?_, hrun, hended, _, _, rfl, ?_, ⟨_, rfl⟩, hW, hsame.mono (by decide) (by decide)⟩
  · show Steps p.tables e below (s₁.setTop (mkF m 0 #[.val (.ref a1)] [])) _
    refine XS.aloadN X0.here hx rfl (hb hby d7_0) rfl rfl ?_
    show Steps p.tables e below (s₁.setTop (mkF m 1 #[.val (.ref a1)] [(.ref a1)])) _
    refine st1 _ ?_
    show Steps p.tables e below (T1.setTop (mkF m 4 #[.val (.ref a1)] [.null])) _
    exact retOut X1 hx Bd.returns rfl (Or.inr (Or.inr (Or.inr (Or.inr ⟨rfl, rfl, rfl⟩)))) (hb hby d7_4) hr
  · show own_Q _ h0 n0 _ T1.heap _
    exact ⟨rfl, N0, e1⟩
set_option maxRecDepth 65536 in
set_option maxHeartbeats 40000000 in
theorem own_getState (l : Launch) (Z : State) (a0 : Array Value) (hw : ∀ d ∈ tables_1, d.before a0 Z = true) (ws : List Jvm.Cond) (a1 : Addr) (h0 : Heap) (n0 : Nat) (F1 : Fld Z h0 a1 "com/example/passwarden/passwarden/core/ChangeDecision" "state" "Lcom/example/passwarden/passwarden/core/AccountState;" .null) :
    MetFree l (⟨"com/example/passwarden/passwarden/core/ChangeDecision", "getState", "()Lcom/example/passwarden/passwarden/core/AccountState;"⟩ : MethodName) (head1 (Jvm.Cond.code (⟨"com/example/passwarden/passwarden/core/ChangeDecision", "getState", "()Lcom/example/passwarden/passwarden/core/AccountState;"⟩ : MethodName) prog_4_method_7_code 1 (some (.object "com/example/passwarden/passwarden/core/AccountState")) :: ws) ({ frames := 0, cells := 0, slots := 0, locals := 0 } : Room)) (fun a U => a = #[(.ref a1)] ∧ Z.Warmed39 U.vm ∧ U.heap = h0) (fun _ _ _ _ _ => True) (fun _ U o U' => ∃ v L, o = .returned v ∧ own_Q .null h0 n0 v U'.heap L ∧ FrameEnd U o U' L ({ frames := 0, cells := 0, slots := 0, locals := 0 } : Room).cells ({ frames := 0, cells := 0, slots := 0, locals := 0 } : Room).slots) := by
  refine MetFree.of_bodySF (plainFor_of_name own_pn0) hisR ?_
  intro p e s m args below meth c s₁ Bd hml0 hP hK
  obtain ⟨rfl, hZ, hh⟩ := hP
  have hx := Bd.exec
  have hby := Bd.bytes
  have hml : c.maxLocals = 1 := hml0
  have hown : s.vm.findClass "com/example/passwarden/passwarden/core/ChangeDecision" = some m.cls := findClass_of_methodNamed Bd.named
  have X0 : Stand p l e ({ frames := 0, cells := 0, slots := 0, locals := 0 } : Room) s m #[(.ref a1)] below meth c s₁ [] 0 0 := Stand.of_body Bd
  have e0 : s₁.heap = h0 := by rw [← hh, Bd.state]; rfl
  have N0 := Fr.nil n0
  have pre0 : ∀ t, Steps p.tables e below (s₁.setTop (mkF m 0 #[.val (.ref a1)] [])) t → Steps p.tables e below (s₁.setTop (entryFrame m #[(.ref a1)] 1)) t := fun t k => castTop (by first | (simp [entryFrame, mkF, argsToLocals, Value.category]; done) | rfl) k
  obtain ⟨T1, X1, e1, st1⟩ := getF X0 hx hZ hown (host := "") (Or.inl (hw _ (List.mem_of_getElem? (i := 26) rfl))) Via.refl e0 F1 (g := (mkF m 1 #[.val (.ref a1)] [(.ref a1)])) rfl rfl (hb hby d8_1)
  obtain ⟨fs, hr, hrun, hended, hW, hsame⟩ := X1.leave (v := some .null) (fun h => by rw [Bd.returns] at h; cases h)
  refine ⟨_, _, pre0 _ ?_, hrun, hended, _, _, rfl, ?_, ⟨_, rfl⟩, hW, hsame.mono (by decide) (by decide)⟩
  · show Steps p.tables e below (s₁.setTop (mkF m 0 #[.val (.ref a1)] [])) _
    refine XS.aloadN X0.here hx rfl (hb hby d8_0) rfl rfl ?_
    show Steps p.tables e below (s₁.setTop (mkF m 1 #[.val (.ref a1)] [(.ref a1)])) _
    refine st1 _ ?_
    show Steps p.tables e below (T1.setTop (mkF m 4 #[.val (.ref a1)] [.null])) _
    exact retOut X1 hx Bd.returns rfl (Or.inr (Or.inr (Or.inr (Or.inr ⟨rfl, rfl, rfl⟩)))) (hb hby d8_4) hr
  · show own_Q _ h0 n0 _ T1.heap _
    exact ⟨rfl, N0, e1⟩
set_option maxRecDepth 65536 in
set_option maxHeartbeats 40000000 in
theorem own_getHistory (l : Launch) (Z : State) (a0 : Array Value) (hw : ∀ d ∈ tables_1, d.before a0 Z = true) (ws : List Jvm.Cond) (a1 : Addr) (h0 : Heap) (n0 : Nat) (F1 : Fld Z h0 a1 "com/example/passwarden/passwarden/core/ChangeDecision" "history" "Lcom/example/passwarden/passwarden/core/PasswordHistory;" .null) :
    MetFree l (⟨"com/example/passwarden/passwarden/core/ChangeDecision", "getHistory", "()Lcom/example/passwarden/passwarden/core/PasswordHistory;"⟩ : MethodName) (head1 (Jvm.Cond.code (⟨"com/example/passwarden/passwarden/core/ChangeDecision", "getHistory", "()Lcom/example/passwarden/passwarden/core/PasswordHistory;"⟩ : MethodName) prog_4_method_8_code 1 (some (.object "com/example/passwarden/passwarden/core/PasswordHistory")) :: ws) ({ frames := 0, cells := 0, slots := 0, locals := 0 } : Room)) (fun a U => a = #[(.ref a1)] ∧ Z.Warmed39 U.vm ∧ U.heap = h0) (fun _ _ _ _ _ => True) (fun _ U o U' => ∃ v L, o = .returned v ∧ own_Q .null h0 n0 v U'.heap L ∧ FrameEnd U o U' L ({ frames := 0, cells := 0, slots := 0, locals := 0 } : Room).cells ({ frames := 0, cells := 0, slots := 0, locals := 0 } : Room).slots) := by
  refine MetFree.of_bodySF (plainFor_of_name own_pn0) hisR ?_
  intro p e s m args below meth c s₁ Bd hml0 hP hK
  obtain ⟨rfl, hZ, hh⟩ := hP
  have hx := Bd.exec
  have hby := Bd.bytes
  have hml : c.maxLocals = 1 := hml0
  have hown : s.vm.findClass "com/example/passwarden/passwarden/core/ChangeDecision" = some m.cls := findClass_of_methodNamed Bd.named
  have X0 : Stand p l e ({ frames := 0, cells := 0, slots := 0, locals := 0 } : Room) s m #[(.ref a1)] below meth c s₁ [] 0 0 := Stand.of_body Bd
  have e0 : s₁.heap = h0 := by rw [← hh, Bd.state]; rfl
  have N0 := Fr.nil n0
  have pre0 : ∀ t, Steps p.tables e below (s₁.setTop (mkF m 0 #[.val (.ref a1)] [])) t → Steps p.tables e below (s₁.setTop (entryFrame m #[(.ref a1)] 1)) t := fun t k => castTop (by first | (simp [entryFrame, mkF, argsToLocals, Value.category]; done) | rfl) k
  obtain ⟨T1, X1, e1, st1⟩ := getF X0 hx hZ hown (host := "") (Or.inl (hw _ (List.mem_of_getElem? (i := 28) rfl))) Via.refl e0 F1 (g := (mkF m 1 #[.val (.ref a1)] [(.ref a1)])) rfl rfl (hb hby d9_1)
  obtain ⟨fs, hr, hrun, hended, hW, hsame⟩ := X1.leave (v := some .null) (fun h => by rw [Bd.returns] at h; cases h)
  refine ⟨_, _, pre0 _ ?_, hrun, hended, _, _, rfl, ?_, ⟨_, rfl⟩, hW, hsame.mono (by decide) (by decide)⟩
  · show Steps p.tables e below (s₁.setTop (mkF m 0 #[.val (.ref a1)] [])) _
    refine XS.aloadN X0.here hx rfl (hb hby d9_0) rfl rfl ?_
    show Steps p.tables e below (s₁.setTop (mkF m 1 #[.val (.ref a1)] [(.ref a1)])) _
    refine st1 _ ?_
    show Steps p.tables e below (T1.setTop (mkF m 4 #[.val (.ref a1)] [.null])) _
    exact retOut X1 hx Bd.returns rfl (Or.inr (Or.inr (Or.inr (Or.inr ⟨rfl, rfl, rfl⟩)))) (hb hby d9_4) hr
  · show own_Q _ h0 n0 _ T1.heap _
    exact ⟨rfl, N0, e1⟩
set_option maxRecDepth 65536 in
set_option maxHeartbeats 40000000 in
theorem own_law_0 (l : Launch) (Z : State) (a0 : Array Value) (hw : ∀ d ∈ tables_1, d.before a0 Z = true) (ws : List Jvm.Cond) (a_PASSWORD_EXPIRED a_PASSWORD_MOD_NOT_ALLOWED a_ACCOUNT_LOCKED a_MUST_SUPPLY_OLD_PASSWORD a_PASSWORD_TOO_YOUNG a_CHANGE_AFTER_RESET a_PASSWORD_IN_HISTORY a_INSUFFICIENT_PASSWORD_QUALITY a_PASSWORD_TOO_SHORT : Addr) (p1 : Int32) (h0 : Heap) (n0 : Nat) (hp : own_Pin Z h0 a_PASSWORD_EXPIRED a_PASSWORD_MOD_NOT_ALLOWED a_ACCOUNT_LOCKED a_MUST_SUPPLY_OLD_PASSWORD a_PASSWORD_TOO_YOUNG a_CHANGE_AFTER_RESET a_PASSWORD_IN_HISTORY a_INSUFFICIENT_PASSWORD_QUALITY a_PASSWORD_TOO_SHORT) (Z0 : n0 ≤ h0.size) (hi : ((p1 &&& (2147483647 : Int32)) % (10 : Int32)) = (0 : Int32)) :
    MetFree l x (head1 (Jvm.Cond.code x code maxLocals ret :: ws) room_1) (fun a U => a = #[(.int p1)] ∧ Z.Warmed39 U.vm ∧ U.heap = h0) (fun _ _ _ _ _ => True) (fun _ U o U' => ∃ v L, o = .returned v ∧ own_QL (.int (1 : Int32)) n0 v U'.heap L ∧ FrameEnd U o U' L room_1.cells room_1.slots) := by
  have hp' := hp
  obtain ⟨S_PASSWORD_EXPIRED, S_PASSWORD_MOD_NOT_ALLOWED, S_ACCOUNT_LOCKED, S_MUST_SUPPLY_OLD_PASSWORD, S_PASSWORD_TOO_YOUNG, S_CHANGE_AFTER_RESET, S_PASSWORD_IN_HISTORY, S_INSUFFICIENT_PASSWORD_QUALITY, S_PASSWORD_TOO_SHORT, E_PASSWORD_EXPIRED, E_PASSWORD_MOD_NOT_ALLOWED, E_ACCOUNT_LOCKED, E_MUST_SUPPLY_OLD_PASSWORD, E_PASSWORD_TOO_YOUNG, E_CHANGE_AFTER_RESET, E_PASSWORD_IN_HISTORY, E_INSUFFICIENT_PASSWORD_QUALITY, E_PASSWORD_TOO_SHORT⟩ := hp'
  refine MetFree.of_bodySF (plainFor_of_name own_pn1) hisR ?_
  intro p e s m args below meth c s₁ Bd hml0 hP hK
  obtain ⟨rfl, hZ, hh⟩ := hP
  have hx := Bd.exec
  have hby := Bd.bytes
  have hml : c.maxLocals = 4 := hml0
  have hown : s.vm.findClass "com/example/passwarden/passwarden/core/ChangeDecisionRefusedPinLaw" = some m.cls := findClass_of_methodNamed Bd.named
  have X0 : Stand p l e room_1 s m #[(.int p1)] below meth c s₁ [] 0 0 := Stand.of_body Bd
  have e0 : s₁.heap = h0 := by rw [← hh, Bd.state]; rfl
  have N0 := Fr.nil n0
  have pre0 : ∀ t, Steps p.tables e below (s₁.setTop (mkF m 0 #[.val (.int p1), .unset, .unset, .unset] [])) t → Steps p.tables e below (s₁.setTop (entryFrame m #[(.int p1)] maxLocals)) t := fun t k => castTop (by first | (simp [entryFrame, mkF, argsToLocals, Value.category, maxLocals]; done) | rfl) k
  obtain ⟨_, _, ⟨T1, L1, k1, n1⟩, -, X1, ⟨Lc1, hQ1, l1, y1, z1⟩, st1⟩ := Jvm.LawKit.callS X0 hx (y := (⟨"com/example/passwarden/passwarden/core/ChangeDecisionRefusedPinLaw", "pick", "(I)Lcom/example/passwarden/passwarden/core/PolicyError;"⟩ : MethodName)) hown (mvT hZ (hw _ (List.mem_of_getElem? (i := 1) rfl))) (mvT hZ (hw _ (List.mem_of_getElem? (i := 2) rfl))) (mvT hZ (hw _ (List.mem_of_getElem? (i := 3) rfl))) (mvT hZ (hw _ (List.mem_of_getElem? (i := 4) rfl))) (by decide) (backOf (W := 0) (own_b1_0 l Z a0 hw [] a_PASSWORD_EXPIRED a_PASSWORD_MOD_NOT_ALLOWED a_ACCOUNT_LOCKED a_MUST_SUPPLY_OLD_PASSWORD a_PASSWORD_TOO_YOUNG a_CHANGE_AFTER_RESET a_PASSWORD_IN_HISTORY a_INSUFFICIENT_PASSWORD_QUALITY a_PASSWORD_TOO_SHORT  h0 n0 hp) hZ (hw _ (List.mem_of_getElem? (i := 4) rfl)) (hw _ (List.mem_of_getElem? (i := 3) rfl)) (by decide) (by decide)) (g := (mkF m 9 #[.val (.int p1), .val (.int (0 : Int32)), .unset, .unset] [(.int (0 : Int32))])) rfl (by rw [hml]; rfl) (argsL := [(.int (0 : Int32))]) (rest := []) (lenOf own_pd0 rfl) rfl (by show 2 * 0 + _ ≤ _; exact Nat.le_of_eq rfl) (hb hby at_9) (fun _ _ => ⟨rfl, e0, (by decide : 0 + 0 ≤ _), (by decide : 0 + 0 ≤ _)⟩)
  dsimp only [Pt.U, Pt.locs, Pt.cells, Pt.slots] at X1 l1 y1 z1 st1 hQ1
  subst l1 y1 z1
  obtain ⟨rfl, N1q, e1⟩ := hQ1
  have N1 := Fr.app N0 N1q
  obtain ⟨_, _, ⟨T2, L2, k2, n2⟩, -, X2, ⟨Lc2, hQ2, l2, y2, z2⟩, st2⟩ := Jvm.LawKit.callS X1 hx (y := (⟨"com/example/passwarden/passwarden/core/ChangeDecision", "refused", "(Lcom/example/passwarden/passwarden/core/PolicyError;)Lcom/example/passwarden/passwarden/core/ChangeDecision;"⟩ : MethodName)) hown (mvT hZ (hw _ (List.mem_of_getElem? (i := 8) rfl))) (mvT hZ (hw _ (List.mem_of_getElem? (i := 9) rfl))) (mvT hZ (hw _ (List.mem_of_getElem? (i := 10) rfl))) (mvT hZ (hw _ (List.mem_of_getElem? (i := 11) rfl))) (by decide) (backOf (W := 0) (own_refR l Z a0 hw [] a_PASSWORD_EXPIRED h0 n0 Z0) hZ (hw _ (List.mem_of_getElem? (i := 11) rfl)) (hw _ (List.mem_of_getElem? (i := 10) rfl)) (by decide) (by decide)) (g := (mkF m 14 #[.val (.int p1), .val (.int (0 : Int32)), .val (.ref a_PASSWORD_EXPIRED), .unset] [(.ref a_PASSWORD_EXPIRED)])) rfl (by rw [hml]; rfl) (argsL := [(.ref a_PASSWORD_EXPIRED)]) (rest := []) (lenOf own_pd1 rfl) rfl (by show 2 * 0 + _ ≤ _; exact Nat.le_of_eq rfl) (hb hby at_14) (fun _ _ => ⟨rfl, e1, (by decide : 0 + 1 ≤ _), (by decide : 0 + 5 ≤ _)⟩)
  dsimp only [Pt.U, Pt.locs, Pt.cells, Pt.slots] at X2 l2 y2 z2 st2 hQ2
  subst l2 y2 z2
  obtain ⟨rfl, N2q, E_obj, F_acc, F_err, F_pwd, F_sta, F_his⟩ := hQ2
  have e2 : T2.heap = T2.heap := rfl
  have N2 := Fr.app N1 N2q
  obtain ⟨cq3, kq3, q3a, q3b, q3c⟩ := isOf hZ e2 E_obj
  obtain ⟨_, _, ⟨T3, L3, k3, n3⟩, -, X3, ⟨Lc3, hQ3, l3, y3, z3⟩, st3⟩ := X2.virtualBack hx (y := (⟨"com/example/passwarden/passwarden/core/ChangeDecision", "isAccepted", "()Z"⟩ : MethodName)) (z := (⟨"com/example/passwarden/passwarden/core/ChangeDecision", "isAccepted", "()Z"⟩ : MethodName)) hown (mvT hZ (hw _ (List.mem_of_getElem? (i := 30) rfl))) (mvT hZ (hw _ (List.mem_of_getElem? (i := 31) rfl))) (notFace_of_selects (args := #[]) (mvT hZ (hw _ (List.mem_of_getElem? (i := 33) rfl)))) (mvT hZ (hw _ (List.mem_of_getElem? (i := 33) rfl))) (mvT hZ (hw _ (List.mem_of_getElem? (i := 32) rfl))) (by decide) (backOf (W := 0) (own_isAccepted l Z a0 hw [] h0.size _ n0 F_acc) hZ (hw _ (List.mem_of_getElem? (i := 34) rfl)) (hw _ (List.mem_of_getElem? (i := 10) rfl)) (by decide) (by decide)) q3a q3c (g := (mkF m 19 #[.val (.int p1), .val (.int (0 : Int32)), .val (.ref a_PASSWORD_EXPIRED), .val (.ref h0.size)] [(.ref h0.size)])) rfl (by rw [hml]; rfl) (Steps.refl _) (argsL := []) (rest := []) (lenOf own_pd2 rfl) rfl (by show 2 * 0 + _ ≤ _; exact Nat.le_of_eq rfl) (hb hby at_19) (fun _ _ => ⟨rfl, e2, (by decide : 1 + 0 ≤ _), (by decide : 5 + 0 ≤ _)⟩)
  dsimp only [Pt.U, Pt.locs, Pt.cells, Pt.slots] at X3 l3 y3 z3 st3 hQ3
  subst l3 y3 z3
  obtain ⟨rfl, N3q, e3⟩ := hQ3
  have N3 := Fr.app N2 N3q
  obtain ⟨cq4, kq4, q4a, q4b, q4c⟩ := isOf hZ e3 E_obj
  obtain ⟨_, _, ⟨T4, L4, k4, n4⟩, -, X4, ⟨Lc4, hQ4, l4, y4, z4⟩, st4⟩ := X3.virtualBack hx (y := (⟨"com/example/passwarden/passwarden/core/ChangeDecision", "getError", "()Lcom/example/passwarden/passwarden/core/PolicyError;"⟩ : MethodName)) (z := (⟨"com/example/passwarden/passwarden/core/ChangeDecision", "getError", "()Lcom/example/passwarden/passwarden/core/PolicyError;"⟩ : MethodName)) hown (mvT hZ (hw _ (List.mem_of_getElem? (i := 35) rfl))) (mvT hZ (hw _ (List.mem_of_getElem? (i := 36) rfl))) (notFace_of_selects (args := #[]) (mvT hZ (hw _ (List.mem_of_getElem? (i := 38) rfl)))) (mvT hZ (hw _ (List.mem_of_getElem? (i := 38) rfl))) (mvT hZ (hw _ (List.mem_of_getElem? (i := 37) rfl))) (by decide) (backOf (W := 0) (own_getErrorR l Z a0 hw [] h0.size a_PASSWORD_EXPIRED _ n0 F_err) hZ (hw _ (List.mem_of_getElem? (i := 39) rfl)) (hw _ (List.mem_of_getElem? (i := 10) rfl)) (by decide) (by decide)) q4a q4c (g := (mkF m 26 #[.val (.int p1), .val (.int (0 : Int32)), .val (.ref a_PASSWORD_EXPIRED), .val (.ref h0.size)] [(.ref h0.size)])) rfl (by rw [hml]; rfl) (Steps.refl _) (argsL := []) (rest := []) (lenOf own_pd3 rfl) rfl (by show 2 * 0 + _ ≤ _; exact Nat.le_of_eq rfl) (hb hby at_26) (fun _ _ => ⟨rfl, e3, (by decide : 1 + 0 ≤ _), (by decide : 5 + 0 ≤ _)⟩)
  dsimp only [Pt.U, Pt.locs, Pt.cells, Pt.slots] at X4 l4 y4 z4 st4 hQ4
  subst l4 y4 z4
  obtain ⟨rfl, N4q, e4⟩ := hQ4
  have N4 := Fr.app N3 N4q
  obtain ⟨cq5, kq5, q5a, q5b, q5c⟩ := isOf hZ e4 E_obj
  obtain ⟨_, _, ⟨T5, L5, k5, n5⟩, -, X5, ⟨Lc5, hQ5, l5, y5, z5⟩, st5⟩ := X4.virtualBack hx (y := (⟨"com/example/passwarden/passwarden/core/ChangeDecision", "getStoredPassword", "()[B"⟩ : MethodName)) (z := (⟨"com/example/passwarden/passwarden/core/ChangeDecision", "getStoredPassword", "()[B"⟩ : MethodName)) hown (mvT hZ (hw _ (List.mem_of_getElem? (i := 40) rfl))) (mvT hZ (hw _ (List.mem_of_getElem? (i := 41) rfl))) (notFace_of_selects (args := #[]) (mvT hZ (hw _ (List.mem_of_getElem? (i := 43) rfl)))) (mvT hZ (hw _ (List.mem_of_getElem? (i := 43) rfl))) (mvT hZ (hw _ (List.mem_of_getElem? (i := 42) rfl))) (by decide) (backOf (W := 0) (own_getStoredPassword l Z a0 hw [] h0.size _ n0 F_pwd) hZ (hw _ (List.mem_of_getElem? (i := 44) rfl)) (hw _ (List.mem_of_getElem? (i := 10) rfl)) (by decide) (by decide)) q5a q5c (g := (mkF m 34 #[.val (.int p1), .val (.int (0 : Int32)), .val (.ref a_PASSWORD_EXPIRED), .val (.ref h0.size)] [(.ref h0.size)])) rfl (by rw [hml]; rfl) (Steps.refl _) (argsL := []) (rest := []) (lenOf own_pd4 rfl) rfl (by show 2 * 0 + _ ≤ _; exact Nat.le_of_eq rfl) (hb hby at_34) (fun _ _ => ⟨rfl, e4, (by decide : 1 + 0 ≤ _), (by decide : 5 + 0 ≤ _)⟩)
  dsimp only [Pt.U, Pt.locs, Pt.cells, Pt.slots] at X5 l5 y5 z5 st5 hQ5
  subst l5 y5 z5
  obtain ⟨rfl, N5q, e5⟩ := hQ5
  have N5 := Fr.app N4 N5q
  obtain ⟨cq6, kq6, q6a, q6b, q6c⟩ := isOf hZ e5 E_obj
  obtain ⟨_, _, ⟨T6, L6, k6, n6⟩, -, X6, ⟨Lc6, hQ6, l6, y6, z6⟩, st6⟩ := X5.virtualBack hx (y := (⟨"com/example/passwarden/passwarden/core/ChangeDecision", "getState", "()Lcom/example/passwarden/passwarden/core/AccountState;"⟩ : MethodName)) (z := (⟨"com/example/passwarden/passwarden/core/ChangeDecision", "getState", "()Lcom/example/passwarden/passwarden/core/AccountState;"⟩ : MethodName)) hown (mvT hZ (hw _ (List.mem_of_getElem? (i := 45) rfl))) (mvT hZ (hw _ (List.mem_of_getElem? (i := 46) rfl))) (notFace_of_selects (args := #[]) (mvT hZ (hw _ (List.mem_of_getElem? (i := 48) rfl)))) (mvT hZ (hw _ (List.mem_of_getElem? (i := 48) rfl))) (mvT hZ (hw _ (List.mem_of_getElem? (i := 47) rfl))) (by decide) (backOf (W := 0) (own_getState l Z a0 hw [] h0.size _ n0 F_sta) hZ (hw _ (List.mem_of_getElem? (i := 49) rfl)) (hw _ (List.mem_of_getElem? (i := 10) rfl)) (by decide) (by decide)) q6a q6c (g := (mkF m 41 #[.val (.int p1), .val (.int (0 : Int32)), .val (.ref a_PASSWORD_EXPIRED), .val (.ref h0.size)] [(.ref h0.size)])) rfl (by rw [hml]; rfl) (Steps.refl _) (argsL := []) (rest := []) (lenOf own_pd5 rfl) rfl (by show 2 * 0 + _ ≤ _; exact Nat.le_of_eq rfl) (hb hby at_41) (fun _ _ => ⟨rfl, e5, (by decide : 1 + 0 ≤ _), (by decide : 5 + 0 ≤ _)⟩)
  dsimp only [Pt.U, Pt.locs, Pt.cells, Pt.slots] at X6 l6 y6 z6 st6 hQ6
  subst l6 y6 z6
  obtain ⟨rfl, N6q, e6⟩ := hQ6
  have N6 := Fr.app N5 N6q
  obtain ⟨cq7, kq7, q7a, q7b, q7c⟩ := isOf hZ e6 E_obj
  obtain ⟨_, _, ⟨T7, L7, k7, n7⟩, -, X7, ⟨Lc7, hQ7, l7, y7, z7⟩, st7⟩ := X6.virtualBack hx (y := (⟨"com/example/passwarden/passwarden/core/ChangeDecision", "getHistory", "()Lcom/example/passwarden/passwarden/core/PasswordHistory;"⟩ : MethodName)) (z := (⟨"com/example/passwarden/passwarden/core/ChangeDecision", "getHistory", "()Lcom/example/passwarden/passwarden/core/PasswordHistory;"⟩ : MethodName)) hown (mvT hZ (hw _ (List.mem_of_getElem? (i := 50) rfl))) (mvT hZ (hw _ (List.mem_of_getElem? (i := 51) rfl))) (notFace_of_selects (args := #[]) (mvT hZ (hw _ (List.mem_of_getElem? (i := 53) rfl)))) (mvT hZ (hw _ (List.mem_of_getElem? (i := 53) rfl))) (mvT hZ (hw _ (List.mem_of_getElem? (i := 52) rfl))) (by decide) (backOf (W := 0) (own_getHistory l Z a0 hw [] h0.size _ n0 F_his) hZ (hw _ (List.mem_of_getElem? (i := 54) rfl)) (hw _ (List.mem_of_getElem? (i := 10) rfl)) (by decide) (by decide)) q7a q7c (g := (mkF m 48 #[.val (.int p1), .val (.int (0 : Int32)), .val (.ref a_PASSWORD_EXPIRED), .val (.ref h0.size)] [(.ref h0.size)])) rfl (by rw [hml]; rfl) (Steps.refl _) (argsL := []) (rest := []) (lenOf own_pd6 rfl) rfl (by show 2 * 0 + _ ≤ _; exact Nat.le_of_eq rfl) (hb hby at_48) (fun _ _ => ⟨rfl, e6, (by decide : 1 + 0 ≤ _), (by decide : 5 + 0 ≤ _)⟩)
  dsimp only [Pt.U, Pt.locs, Pt.cells, Pt.slots] at X7 l7 y7 z7 st7 hQ7
  subst l7 y7 z7
  obtain ⟨rfl, N7q, e7⟩ := hQ7
  have N7 := Fr.app N6 N7q
  obtain ⟨fs, hr, hrun, hended, hW, hsame⟩ := X7.leave (v := some (.int (1 : Int32))) (fun h => by rw [Bd.returns] at h; cases h)
  refine ⟨_, _, pre0 _ ?_, hrun, hended, _, _, rfl, ?_, ⟨_, rfl⟩, hW, hsame.mono (by decide) (by decide)⟩
  · show Steps p.tables e below (s₁.setTop (mkF m 0 #[.val (.int p1), .unset, .unset, .unset] [])) _
    refine XS.iloadN X0.here hx rfl (hb hby at_0) rfl ?_
    show Steps p.tables e below (s₁.setTop (mkF m 1 #[.val (.int p1), .unset, .unset, .unset] [(.int p1)])) _
    refine X0.ldcInt hx hown (mvT hZ (hw _ (List.mem_of_getElem? (i := 0) rfl))) (g := (mkF m 1 #[.val (.int p1), .unset, .unset, .unset] [(.int p1)])) rfl (hb hby at_1) _ ?_
    show Steps p.tables e below (s₁.setTop (mkF m 3 #[.val (.int p1), .unset, .unset, .unset] [(.int (2147483647 : Int32)), (.int p1)])) _
    refine XS.iand X0.here hx rfl (hb hby at_3) rfl ?_
    show Steps p.tables e below (s₁.setTop (mkF m 4 #[.val (.int p1), .unset, .unset, .unset] [(.int (p1 &&& (2147483647 : Int32)))])) _
    refine XS.bipush X0.here hx rfl (hb hby at_4) ?_
    show Steps p.tables e below (s₁.setTop (mkF m 6 #[.val (.int p1), .unset, .unset, .unset] [(.int (10 : Int32)), (.int (p1 &&& (2147483647 : Int32)))])) _
    refine iremM (g := (mkF m 6 #[.val (.int p1), .unset, .unset, .unset] [(.int (10 : Int32)), (.int (p1 &&& (2147483647 : Int32)))])) X0 hx rfl (hb hby at_6) rfl (by decide) ?_
    show Steps p.tables e below (s₁.setTop (mkF m 7 #[.val (.int p1), .unset, .unset, .unset] [(.int ((p1 &&& (2147483647 : Int32)) % (10 : Int32)))])) _
    rewrite [hi]
    show Steps p.tables e below (s₁.setTop (mkF m 7 #[.val (.int p1), .unset, .unset, .unset] [(.int (0 : Int32))])) _
    refine XS.istoreN X0.here hx rfl (hb hby at_7) rfl (l' := #[.val (.int p1), .val (.int (0 : Int32)), .unset, .unset]) rfl ?_
    show Steps p.tables e below (s₁.setTop (mkF m 8 #[.val (.int p1), .val (.int (0 : Int32)), .unset, .unset] [])) _
    refine XS.iloadN X0.here hx rfl (hb hby at_8) rfl ?_
    show Steps p.tables e below (s₁.setTop (mkF m 9 #[.val (.int p1), .val (.int (0 : Int32)), .unset, .unset] [(.int (0 : Int32))])) _
    refine st1 _ ?_
    show Steps p.tables e below (T1.setTop (mkF m 12 #[.val (.int p1), .val (.int (0 : Int32)), .unset, .unset] [(.ref a_PASSWORD_EXPIRED)])) _
    refine XS.astoreN X1.here hx rfl (hb hby at_12) rfl rfl (l' := #[.val (.int p1), .val (.int (0 : Int32)), .val (.ref a_PASSWORD_EXPIRED), .unset]) rfl ?_
    show Steps p.tables e below (T1.setTop (mkF m 13 #[.val (.int p1), .val (.int (0 : Int32)), .val (.ref a_PASSWORD_EXPIRED), .unset] [])) _
    refine XS.aloadN X1.here hx rfl (hb hby at_13) rfl rfl ?_
    show Steps p.tables e below (T1.setTop (mkF m 14 #[.val (.int p1), .val (.int (0 : Int32)), .val (.ref a_PASSWORD_EXPIRED), .unset] [(.ref a_PASSWORD_EXPIRED)])) _
    refine st2 _ ?_
    show Steps p.tables e below (T2.setTop (mkF m 17 #[.val (.int p1), .val (.int (0 : Int32)), .val (.ref a_PASSWORD_EXPIRED), .unset] [(.ref h0.size)])) _
    refine XS.astoreN X2.here hx rfl (hb hby at_17) rfl rfl (l' := #[.val (.int p1), .val (.int (0 : Int32)), .val (.ref a_PASSWORD_EXPIRED), .val (.ref h0.size)]) rfl ?_
    show Steps p.tables e below (T2.setTop (mkF m 18 #[.val (.int p1), .val (.int (0 : Int32)), .val (.ref a_PASSWORD_EXPIRED), .val (.ref h0.size)] [])) _
    refine XS.aloadN X2.here hx rfl (hb hby at_18) rfl rfl ?_
    show Steps p.tables e below (T2.setTop (mkF m 19 #[.val (.int p1), .val (.int (0 : Int32)), .val (.ref a_PASSWORD_EXPIRED), .val (.ref h0.size)] [(.ref h0.size)])) _
    refine st3.trans ?_
    show Steps p.tables e below (T3.setTop (mkF m 22 #[.val (.int p1), .val (.int (0 : Int32)), .val (.ref a_PASSWORD_EXPIRED), .val (.ref h0.size)] [(.int (0 : Int32))])) _
    refine XS.ifNo X3.here hx rfl (hb hby at_22) rfl (by decide) ?_
    show Steps p.tables e below (T3.setTop (mkF m 25 #[.val (.int p1), .val (.int (0 : Int32)), .val (.ref a_PASSWORD_EXPIRED), .val (.ref h0.size)] [])) _
    refine XS.aloadN X3.here hx rfl (hb hby at_25) rfl rfl ?_
    show Steps p.tables e below (T3.setTop (mkF m 26 #[.val (.int p1), .val (.int (0 : Int32)), .val (.ref a_PASSWORD_EXPIRED), .val (.ref h0.size)] [(.ref h0.size)])) _
    refine st4.trans ?_
    show Steps p.tables e below (T4.setTop (mkF m 29 #[.val (.int p1), .val (.int (0 : Int32)), .val (.ref a_PASSWORD_EXPIRED), .val (.ref h0.size)] [(.ref a_PASSWORD_EXPIRED)])) _
    refine XS.aloadN X4.here hx rfl (hb hby at_29) rfl rfl ?_
    show Steps p.tables e below (T4.setTop (mkF m 30 #[.val (.int p1), .val (.int (0 : Int32)), .val (.ref a_PASSWORD_EXPIRED), .val (.ref h0.size)] [(.ref a_PASSWORD_EXPIRED), (.ref a_PASSWORD_EXPIRED)])) _
    refine Jvm.RoadKit.acmp (g := (mkF m 30 #[.val (.int p1), .val (.int (0 : Int32)), .val (.ref a_PASSWORD_EXPIRED), .val (.ref h0.size)] [(.ref a_PASSWORD_EXPIRED), (.ref a_PASSWORD_EXPIRED)])) X4 hx rfl rfl rfl (pc0 := 30) (pc' := 33) (same := true) rfl (hb hby at_30) rfl (decide_eq_true rfl) (by decide) (by decide) ?_
    show Steps p.tables e below (T4.setTop (mkF m 33 #[.val (.int p1), .val (.int (0 : Int32)), .val (.ref a_PASSWORD_EXPIRED), .val (.ref h0.size)] [])) _
    refine XS.aloadN X4.here hx rfl (hb hby at_33) rfl rfl ?_
    show Steps p.tables e below (T4.setTop (mkF m 34 #[.val (.int p1), .val (.int (0 : Int32)), .val (.ref a_PASSWORD_EXPIRED), .val (.ref h0.size)] [(.ref h0.size)])) _
    refine st5.trans ?_
    show Steps p.tables e below (T5.setTop (mkF m 37 #[.val (.int p1), .val (.int (0 : Int32)), .val (.ref a_PASSWORD_EXPIRED), .val (.ref h0.size)] [.null])) _
    refine XS.ifnonnullNo X5.here hx rfl (hb hby at_37) rfl ?_
    show Steps p.tables e below (T5.setTop (mkF m 40 #[.val (.int p1), .val (.int (0 : Int32)), .val (.ref a_PASSWORD_EXPIRED), .val (.ref h0.size)] [])) _
    refine XS.aloadN X5.here hx rfl (hb hby at_40) rfl rfl ?_
    show Steps p.tables e below (T5.setTop (mkF m 41 #[.val (.int p1), .val (.int (0 : Int32)), .val (.ref a_PASSWORD_EXPIRED), .val (.ref h0.size)] [(.ref h0.size)])) _
    refine st6.trans ?_
    show Steps p.tables e below (T6.setTop (mkF m 44 #[.val (.int p1), .val (.int (0 : Int32)), .val (.ref a_PASSWORD_EXPIRED), .val (.ref h0.size)] [.null])) _
    refine XS.ifnonnullNo X6.here hx rfl (hb hby at_44) rfl ?_
    show Steps p.tables e below (T6.setTop (mkF m 47 #[.val (.int p1), .val (.int (0 : Int32)), .val (.ref a_PASSWORD_EXPIRED), .val (.ref h0.size)] [])) _
    refine XS.aloadN X6.here hx rfl (hb hby at_47) rfl rfl ?_
    show Steps p.tables e below (T6.setTop (mkF m 48 #[.val (.int p1), .val (.int (0 : Int32)), .val (.ref a_PASSWORD_EXPIRED), .val (.ref h0.size)] [(.ref h0.size)])) _
    refine st7.trans ?_
    show Steps p.tables e below (T7.setTop (mkF m 51 #[.val (.int p1), .val (.int (0 : Int32)), .val (.ref a_PASSWORD_EXPIRED), .val (.ref h0.size)] [.null])) _
    refine XS.ifnonnullNo X7.here hx rfl (hb hby at_51) rfl ?_
    show Steps p.tables e below (T7.setTop (mkF m 54 #[.val (.int p1), .val (.int (0 : Int32)), .val (.ref a_PASSWORD_EXPIRED), .val (.ref h0.size)] [])) _
    refine XS.iconst X7.here hx rfl (hb hby at_54) ?_
    show Steps p.tables e below (T7.setTop (mkF m 55 #[.val (.int p1), .val (.int (0 : Int32)), .val (.ref a_PASSWORD_EXPIRED), .val (.ref h0.size)] [(.int (1 : Int32))])) _
    refine XS.goto X7.here hx rfl (pc0 := 55) (pc' := 59) rfl (hb hby at_55) (by decide) (by decide) ?_
    show Steps p.tables e below (T7.setTop (mkF m 59 #[.val (.int p1), .val (.int (0 : Int32)), .val (.ref a_PASSWORD_EXPIRED), .val (.ref h0.size)] [(.int (1 : Int32))])) _
    exact retN X7 hx (t := .boolean) Bd.returns (by simp) (hb hby at_59) hr
  · show own_QL _ n0 _ T7.heap _
    exact ⟨rfl, N7⟩
set_option maxRecDepth 65536 in
set_option maxHeartbeats 40000000 in
theorem own_law_1 (l : Launch) (Z : State) (a0 : Array Value) (hw : ∀ d ∈ tables_1, d.before a0 Z = true) (ws : List Jvm.Cond) (a_PASSWORD_EXPIRED a_PASSWORD_MOD_NOT_ALLOWED a_ACCOUNT_LOCKED a_MUST_SUPPLY_OLD_PASSWORD a_PASSWORD_TOO_YOUNG a_CHANGE_AFTER_RESET a_PASSWORD_IN_HISTORY a_INSUFFICIENT_PASSWORD_QUALITY a_PASSWORD_TOO_SHORT : Addr) (p1 : Int32) (h0 : Heap) (n0 : Nat) (hp : own_Pin Z h0 a_PASSWORD_EXPIRED a_PASSWORD_MOD_NOT_ALLOWED a_ACCOUNT_LOCKED a_MUST_SUPPLY_OLD_PASSWORD a_PASSWORD_TOO_YOUNG a_CHANGE_AFTER_RESET a_PASSWORD_IN_HISTORY a_INSUFFICIENT_PASSWORD_QUALITY a_PASSWORD_TOO_SHORT) (Z0 : n0 ≤ h0.size) (hi : ((p1 &&& (2147483647 : Int32)) % (10 : Int32)) = (1 : Int32)) :
    MetFree l x (head1 (Jvm.Cond.code x code maxLocals ret :: ws) room_1) (fun a U => a = #[(.int p1)] ∧ Z.Warmed39 U.vm ∧ U.heap = h0) (fun _ _ _ _ _ => True) (fun _ U o U' => ∃ v L, o = .returned v ∧ own_QL (.int (1 : Int32)) n0 v U'.heap L ∧ FrameEnd U o U' L room_1.cells room_1.slots) := by
  have hp' := hp
  obtain ⟨S_PASSWORD_EXPIRED, S_PASSWORD_MOD_NOT_ALLOWED, S_ACCOUNT_LOCKED, S_MUST_SUPPLY_OLD_PASSWORD, S_PASSWORD_TOO_YOUNG, S_CHANGE_AFTER_RESET, S_PASSWORD_IN_HISTORY, S_INSUFFICIENT_PASSWORD_QUALITY, S_PASSWORD_TOO_SHORT, E_PASSWORD_EXPIRED, E_PASSWORD_MOD_NOT_ALLOWED, E_ACCOUNT_LOCKED, E_MUST_SUPPLY_OLD_PASSWORD, E_PASSWORD_TOO_YOUNG, E_CHANGE_AFTER_RESET, E_PASSWORD_IN_HISTORY, E_INSUFFICIENT_PASSWORD_QUALITY, E_PASSWORD_TOO_SHORT⟩ := hp'
  refine MetFree.of_bodySF (plainFor_of_name own_pn1) hisR ?_
  intro p e s m args below meth c s₁ Bd hml0 hP hK
  obtain ⟨rfl, hZ, hh⟩ := hP
  have hx := Bd.exec
  have hby := Bd.bytes
  have hml : c.maxLocals = 4 := hml0
  have hown : s.vm.findClass "com/example/passwarden/passwarden/core/ChangeDecisionRefusedPinLaw" = some m.cls := findClass_of_methodNamed Bd.named
  have X0 : Stand p l e room_1 s m #[(.int p1)] below meth c s₁ [] 0 0 := Stand.of_body Bd
  have e0 : s₁.heap = h0 := by rw [← hh, Bd.state]; rfl
  have N0 := Fr.nil n0
  have pre0 : ∀ t, Steps p.tables e below (s₁.setTop (mkF m 0 #[.val (.int p1), .unset, .unset, .unset] [])) t → Steps p.tables e below (s₁.setTop (entryFrame m #[(.int p1)] maxLocals)) t := fun t k => castTop (by first | (simp [entryFrame, mkF, argsToLocals, Value.category, maxLocals]; done) | rfl) k
  obtain ⟨_, _, ⟨T1, L1, k1, n1⟩, -, X1, ⟨Lc1, hQ1, l1, y1, z1⟩, st1⟩ := Jvm.LawKit.callS X0 hx (y := (⟨"com/example/passwarden/passwarden/core/ChangeDecisionRefusedPinLaw", "pick", "(I)Lcom/example/passwarden/passwarden/core/PolicyError;"⟩ : MethodName)) hown (mvT hZ (hw _ (List.mem_of_getElem? (i := 1) rfl))) (mvT hZ (hw _ (List.mem_of_getElem? (i := 2) rfl))) (mvT hZ (hw _ (List.mem_of_getElem? (i := 3) rfl))) (mvT hZ (hw _ (List.mem_of_getElem? (i := 4) rfl))) (by decide) (backOf (W := 0) (own_b1_1 l Z a0 hw [] a_PASSWORD_EXPIRED a_PASSWORD_MOD_NOT_ALLOWED a_ACCOUNT_LOCKED a_MUST_SUPPLY_OLD_PASSWORD a_PASSWORD_TOO_YOUNG a_CHANGE_AFTER_RESET a_PASSWORD_IN_HISTORY a_INSUFFICIENT_PASSWORD_QUALITY a_PASSWORD_TOO_SHORT  h0 n0 hp) hZ (hw _ (List.mem_of_getElem? (i := 4) rfl)) (hw _ (List.mem_of_getElem? (i := 3) rfl)) (by decide) (by decide)) (g := (mkF m 9 #[.val (.int p1), .val (.int (1 : Int32)), .unset, .unset] [(.int (1 : Int32))])) rfl (by rw [hml]; rfl) (argsL := [(.int (1 : Int32))]) (rest := []) (lenOf own_pd0 rfl) rfl (by show 2 * 0 + _ ≤ _; exact Nat.le_of_eq rfl) (hb hby at_9) (fun _ _ => ⟨rfl, e0, (by decide : 0 + 0 ≤ _), (by decide : 0 + 0 ≤ _)⟩)
  dsimp only [Pt.U, Pt.locs, Pt.cells, Pt.slots] at X1 l1 y1 z1 st1 hQ1
  subst l1 y1 z1
  obtain ⟨rfl, N1q, e1⟩ := hQ1
  have N1 := Fr.app N0 N1q
  obtain ⟨_, _, ⟨T2, L2, k2, n2⟩, -, X2, ⟨Lc2, hQ2, l2, y2, z2⟩, st2⟩ := Jvm.LawKit.callS X1 hx (y := (⟨"com/example/passwarden/passwarden/core/ChangeDecision", "refused", "(Lcom/example/passwarden/passwarden/core/PolicyError;)Lcom/example/passwarden/passwarden/core/ChangeDecision;"⟩ : MethodName)) hown (mvT hZ (hw _ (List.mem_of_getElem? (i := 8) rfl))) (mvT hZ (hw _ (List.mem_of_getElem? (i := 9) rfl))) (mvT hZ (hw _ (List.mem_of_getElem? (i := 10) rfl))) (mvT hZ (hw _ (List.mem_of_getElem? (i := 11) rfl))) (by decide) (backOf (W := 0) (own_refR l Z a0 hw [] a_ACCOUNT_LOCKED h0 n0 Z0) hZ (hw _ (List.mem_of_getElem? (i := 11) rfl)) (hw _ (List.mem_of_getElem? (i := 10) rfl)) (by decide) (by decide)) (g := (mkF m 14 #[.val (.int p1), .val (.int (1 : Int32)), .val (.ref a_ACCOUNT_LOCKED), .unset] [(.ref a_ACCOUNT_LOCKED)])) rfl (by rw [hml]; rfl) (argsL := [(.ref a_ACCOUNT_LOCKED)]) (rest := []) (lenOf own_pd1 rfl) rfl (by show 2 * 0 + _ ≤ _; exact Nat.le_of_eq rfl) (hb hby at_14) (fun _ _ => ⟨rfl, e1, (by decide : 0 + 1 ≤ _), (by decide : 0 + 5 ≤ _)⟩)
  dsimp only [Pt.U, Pt.locs, Pt.cells, Pt.slots] at X2 l2 y2 z2 st2 hQ2
  subst l2 y2 z2
  obtain ⟨rfl, N2q, E_obj, F_acc, F_err, F_pwd, F_sta, F_his⟩ := hQ2
  have e2 : T2.heap = T2.heap := rfl
  have N2 := Fr.app N1 N2q
  obtain ⟨cq3, kq3, q3a, q3b, q3c⟩ := isOf hZ e2 E_obj
  obtain ⟨_, _, ⟨T3, L3, k3, n3⟩, -, X3, ⟨Lc3, hQ3, l3, y3, z3⟩, st3⟩ := X2.virtualBack hx (y := (⟨"com/example/passwarden/passwarden/core/ChangeDecision", "isAccepted", "()Z"⟩ : MethodName)) (z := (⟨"com/example/passwarden/passwarden/core/ChangeDecision", "isAccepted", "()Z"⟩ : MethodName)) hown (mvT hZ (hw _ (List.mem_of_getElem? (i := 30) rfl))) (mvT hZ (hw _ (List.mem_of_getElem? (i := 31) rfl))) (notFace_of_selects (args := #[]) (mvT hZ (hw _ (List.mem_of_getElem? (i := 33) rfl)))) (mvT hZ (hw _ (List.mem_of_getElem? (i := 33) rfl))) (mvT hZ (hw _ (List.mem_of_getElem? (i := 32) rfl))) (by decide) (backOf (W := 0) (own_isAccepted l Z a0 hw [] h0.size _ n0 F_acc) hZ (hw _ (List.mem_of_getElem? (i := 34) rfl)) (hw _ (List.mem_of_getElem? (i := 10) rfl)) (by decide) (by decide)) q3a q3c (g := (mkF m 19 #[.val (.int p1), .val (.int (1 : Int32)), .val (.ref a_ACCOUNT_LOCKED), .val (.ref h0.size)] [(.ref h0.size)])) rfl (by rw [hml]; rfl) (Steps.refl _) (argsL := []) (rest := []) (lenOf own_pd2 rfl) rfl (by show 2 * 0 + _ ≤ _; exact Nat.le_of_eq rfl) (hb hby at_19) (fun _ _ => ⟨rfl, e2, (by decide : 1 + 0 ≤ _), (by decide : 5 + 0 ≤ _)⟩)
  dsimp only [Pt.U, Pt.locs, Pt.cells, Pt.slots] at X3 l3 y3 z3 st3 hQ3
  subst l3 y3 z3
  obtain ⟨rfl, N3q, e3⟩ := hQ3
  have N3 := Fr.app N2 N3q
  obtain ⟨cq4, kq4, q4a, q4b, q4c⟩ := isOf hZ e3 E_obj
  obtain ⟨_, _, ⟨T4, L4, k4, n4⟩, -, X4, ⟨Lc4, hQ4, l4, y4, z4⟩, st4⟩ := X3.virtualBack hx (y := (⟨"com/example/passwarden/passwarden/core/ChangeDecision", "getError", "()Lcom/example/passwarden/passwarden/core/PolicyError;"⟩ : MethodName)) (z := (⟨"com/example/passwarden/passwarden/core/ChangeDecision", "getError", "()Lcom/example/passwarden/passwarden/core/PolicyError;"⟩ : MethodName)) hown (mvT hZ (hw _ (List.mem_of_getElem? (i := 35) rfl))) (mvT hZ (hw _ (List.mem_of_getElem? (i := 36) rfl))) (notFace_of_selects (args := #[]) (mvT hZ (hw _ (List.mem_of_getElem? (i := 38) rfl)))) (mvT hZ (hw _ (List.mem_of_getElem? (i := 38) rfl))) (mvT hZ (hw _ (List.mem_of_getElem? (i := 37) rfl))) (by decide) (backOf (W := 0) (own_getErrorR l Z a0 hw [] h0.size a_ACCOUNT_LOCKED _ n0 F_err) hZ (hw _ (List.mem_of_getElem? (i := 39) rfl)) (hw _ (List.mem_of_getElem? (i := 10) rfl)) (by decide) (by decide)) q4a q4c (g := (mkF m 26 #[.val (.int p1), .val (.int (1 : Int32)), .val (.ref a_ACCOUNT_LOCKED), .val (.ref h0.size)] [(.ref h0.size)])) rfl (by rw [hml]; rfl) (Steps.refl _) (argsL := []) (rest := []) (lenOf own_pd3 rfl) rfl (by show 2 * 0 + _ ≤ _; exact Nat.le_of_eq rfl) (hb hby at_26) (fun _ _ => ⟨rfl, e3, (by decide : 1 + 0 ≤ _), (by decide : 5 + 0 ≤ _)⟩)
  dsimp only [Pt.U, Pt.locs, Pt.cells, Pt.slots] at X4 l4 y4 z4 st4 hQ4
  subst l4 y4 z4
  obtain ⟨rfl, N4q, e4⟩ := hQ4
  have N4 := Fr.app N3 N4q
  obtain ⟨cq5, kq5, q5a, q5b, q5c⟩ := isOf hZ e4 E_obj
  obtain ⟨_, _, ⟨T5, L5, k5, n5⟩, -, X5, ⟨Lc5, hQ5, l5, y5, z5⟩, st5⟩ := X4.virtualBack hx (y := (⟨"com/example/passwarden/passwarden/core/ChangeDecision", "getStoredPassword", "()[B"⟩ : MethodName)) (z := (⟨"com/example/passwarden/passwarden/core/ChangeDecision", "getStoredPassword", "()[B"⟩ : MethodName)) hown (mvT hZ (hw _ (List.mem_of_getElem? (i := 40) rfl))) (mvT hZ (hw _ (List.mem_of_getElem? (i := 41) rfl))) (notFace_of_selects (args := #[]) (mvT hZ (hw _ (List.mem_of_getElem? (i := 43) rfl)))) (mvT hZ (hw _ (List.mem_of_getElem? (i := 43) rfl))) (mvT hZ (hw _ (List.mem_of_getElem? (i := 42) rfl))) (by decide) (backOf (W := 0) (own_getStoredPassword l Z a0 hw [] h0.size _ n0 F_pwd) hZ (hw _ (List.mem_of_getElem? (i := 44) rfl)) (hw _ (List.mem_of_getElem? (i := 10) rfl)) (by decide) (by decide)) q5a q5c (g := (mkF m 34 #[.val (.int p1), .val (.int (1 : Int32)), .val (.ref a_ACCOUNT_LOCKED), .val (.ref h0.size)] [(.ref h0.size)])) rfl (by rw [hml]; rfl) (Steps.refl _) (argsL := []) (rest := []) (lenOf own_pd4 rfl) rfl (by show 2 * 0 + _ ≤ _; exact Nat.le_of_eq rfl) (hb hby at_34) (fun _ _ => ⟨rfl, e4, (by decide : 1 + 0 ≤ _), (by decide : 5 + 0 ≤ _)⟩)
  dsimp only [Pt.U, Pt.locs, Pt.cells, Pt.slots] at X5 l5 y5 z5 st5 hQ5
  subst l5 y5 z5
  obtain ⟨rfl, N5q, e5⟩ := hQ5
  have N5 := Fr.app N4 N5q
  obtain ⟨cq6, kq6, q6a, q6b, q6c⟩ := isOf hZ e5 E_obj
  obtain ⟨_, _, ⟨T6, L6, k6, n6⟩, -, X6, ⟨Lc6, hQ6, l6, y6, z6⟩, st6⟩ := X5.virtualBack hx (y := (⟨"com/example/passwarden/passwarden/core/ChangeDecision", "getState", "()Lcom/example/passwarden/passwarden/core/AccountState;"⟩ : MethodName)) (z := (⟨"com/example/passwarden/passwarden/core/ChangeDecision", "getState", "()Lcom/example/passwarden/passwarden/core/AccountState;"⟩ : MethodName)) hown (mvT hZ (hw _ (List.mem_of_getElem? (i := 45) rfl))) (mvT hZ (hw _ (List.mem_of_getElem? (i := 46) rfl))) (notFace_of_selects (args := #[]) (mvT hZ (hw _ (List.mem_of_getElem? (i := 48) rfl)))) (mvT hZ (hw _ (List.mem_of_getElem? (i := 48) rfl))) (mvT hZ (hw _ (List.mem_of_getElem? (i := 47) rfl))) (by decide) (backOf (W := 0) (own_getState l Z a0 hw [] h0.size _ n0 F_sta) hZ (hw _ (List.mem_of_getElem? (i := 49) rfl)) (hw _ (List.mem_of_getElem? (i := 10) rfl)) (by decide) (by decide)) q6a q6c (g := (mkF m 41 #[.val (.int p1), .val (.int (1 : Int32)), .val (.ref a_ACCOUNT_LOCKED), .val (.ref h0.size)] [(.ref h0.size)])) rfl (by rw [hml]; rfl) (Steps.refl _) (argsL := []) (rest := []) (lenOf own_pd5 rfl) rfl (by show 2 * 0 + _ ≤ _; exact Nat.le_of_eq rfl) (hb hby at_41) (fun _ _ => ⟨rfl, e5, (by decide : 1 + 0 ≤ _), (by decide : 5 + 0 ≤ _)⟩)
  dsimp only [Pt.U, Pt.locs, Pt.cells, Pt.slots] at X6 l6 y6 z6 st6 hQ6
  subst l6 y6 z6
  obtain ⟨rfl, N6q, e6⟩ := hQ6
  have N6 := Fr.app N5 N6q
  obtain ⟨cq7, kq7, q7a, q7b, q7c⟩ := isOf hZ e6 E_obj
  obtain ⟨_, _, ⟨T7, L7, k7, n7⟩, -, X7, ⟨Lc7, hQ7, l7, y7, z7⟩, st7⟩ := X6.virtualBack hx (y := (⟨"com/example/passwarden/passwarden/core/ChangeDecision", "getHistory", "()Lcom/example/passwarden/passwarden/core/PasswordHistory;"⟩ : MethodName)) (z := (⟨"com/example/passwarden/passwarden/core/ChangeDecision", "getHistory", "()Lcom/example/passwarden/passwarden/core/PasswordHistory;"⟩ : MethodName)) hown (mvT hZ (hw _ (List.mem_of_getElem? (i := 50) rfl))) (mvT hZ (hw _ (List.mem_of_getElem? (i := 51) rfl))) (notFace_of_selects (args := #[]) (mvT hZ (hw _ (List.mem_of_getElem? (i := 53) rfl)))) (mvT hZ (hw _ (List.mem_of_getElem? (i := 53) rfl))) (mvT hZ (hw _ (List.mem_of_getElem? (i := 52) rfl))) (by decide) (backOf (W := 0) (own_getHistory l Z a0 hw [] h0.size _ n0 F_his) hZ (hw _ (List.mem_of_getElem? (i := 54) rfl)) (hw _ (List.mem_of_getElem? (i := 10) rfl)) (by decide) (by decide)) q7a q7c (g := (mkF m 48 #[.val (.int p1), .val (.int (1 : Int32)), .val (.ref a_ACCOUNT_LOCKED), .val (.ref h0.size)] [(.ref h0.size)])) rfl (by rw [hml]; rfl) (Steps.refl _) (argsL := []) (rest := []) (lenOf own_pd6 rfl) rfl (by show 2 * 0 + _ ≤ _; exact Nat.le_of_eq rfl) (hb hby at_48) (fun _ _ => ⟨rfl, e6, (by decide : 1 + 0 ≤ _), (by decide : 5 + 0 ≤ _)⟩)
  dsimp only [Pt.U, Pt.locs, Pt.cells, Pt.slots] at X7 l7 y7 z7 st7 hQ7
  subst l7 y7 z7
  obtain ⟨rfl, N7q, e7⟩ := hQ7
  have N7 := Fr.app N6 N7q
  obtain ⟨fs, hr, hrun, hended, hW, hsame⟩ := X7.leave (v := some (.int (1 : Int32))) (fun h => by rw [Bd.returns] at h; cases h)
  refine ⟨_, _, pre0 _ ?_, hrun, hended, _, _, rfl, ?_, ⟨_, rfl⟩, hW, hsame.mono (by decide) (by decide)⟩
  · show Steps p.tables e below (s₁.setTop (mkF m 0 #[.val (.int p1), .unset, .unset, .unset] [])) _
    refine XS.iloadN X0.here hx rfl (hb hby at_0) rfl ?_
    show Steps p.tables e below (s₁.setTop (mkF m 1 #[.val (.int p1), .unset, .unset, .unset] [(.int p1)])) _
    refine X0.ldcInt hx hown (mvT hZ (hw _ (List.mem_of_getElem? (i := 0) rfl))) (g := (mkF m 1 #[.val (.int p1), .unset, .unset, .unset] [(.int p1)])) rfl (hb hby at_1) _ ?_
    show Steps p.tables e below (s₁.setTop (mkF m 3 #[.val (.int p1), .unset, .unset, .unset] [(.int (2147483647 : Int32)), (.int p1)])) _
    refine XS.iand X0.here hx rfl (hb hby at_3) rfl ?_
    show Steps p.tables e below (s₁.setTop (mkF m 4 #[.val (.int p1), .unset, .unset, .unset] [(.int (p1 &&& (2147483647 : Int32)))])) _
    refine XS.bipush X0.here hx rfl (hb hby at_4) ?_
    show Steps p.tables e below (s₁.setTop (mkF m 6 #[.val (.int p1), .unset, .unset, .unset] [(.int (10 : Int32)), (.int (p1 &&& (2147483647 : Int32)))])) _
    refine iremM (g := (mkF m 6 #[.val (.int p1), .unset, .unset, .unset] [(.int (10 : Int32)), (.int (p1 &&& (2147483647 : Int32)))])) X0 hx rfl (hb hby at_6) rfl (by decide) ?_
    show Steps p.tables e below (s₁.setTop (mkF m 7 #[.val (.int p1), .unset, .unset, .unset] [(.int ((p1 &&& (2147483647 : Int32)) % (10 : Int32)))])) _
    rewrite [hi]
    show Steps p.tables e below (s₁.setTop (mkF m 7 #[.val (.int p1), .unset, .unset, .unset] [(.int (1 : Int32))])) _
    refine XS.istoreN X0.here hx rfl (hb hby at_7) rfl (l' := #[.val (.int p1), .val (.int (1 : Int32)), .unset, .unset]) rfl ?_
    show Steps p.tables e below (s₁.setTop (mkF m 8 #[.val (.int p1), .val (.int (1 : Int32)), .unset, .unset] [])) _
    refine XS.iloadN X0.here hx rfl (hb hby at_8) rfl ?_
    show Steps p.tables e below (s₁.setTop (mkF m 9 #[.val (.int p1), .val (.int (1 : Int32)), .unset, .unset] [(.int (1 : Int32))])) _
    refine st1 _ ?_
    show Steps p.tables e below (T1.setTop (mkF m 12 #[.val (.int p1), .val (.int (1 : Int32)), .unset, .unset] [(.ref a_ACCOUNT_LOCKED)])) _
    refine XS.astoreN X1.here hx rfl (hb hby at_12) rfl rfl (l' := #[.val (.int p1), .val (.int (1 : Int32)), .val (.ref a_ACCOUNT_LOCKED), .unset]) rfl ?_
    show Steps p.tables e below (T1.setTop (mkF m 13 #[.val (.int p1), .val (.int (1 : Int32)), .val (.ref a_ACCOUNT_LOCKED), .unset] [])) _
    refine XS.aloadN X1.here hx rfl (hb hby at_13) rfl rfl ?_
    show Steps p.tables e below (T1.setTop (mkF m 14 #[.val (.int p1), .val (.int (1 : Int32)), .val (.ref a_ACCOUNT_LOCKED), .unset] [(.ref a_ACCOUNT_LOCKED)])) _
    refine st2 _ ?_
    show Steps p.tables e below (T2.setTop (mkF m 17 #[.val (.int p1), .val (.int (1 : Int32)), .val (.ref a_ACCOUNT_LOCKED), .unset] [(.ref h0.size)])) _
    refine XS.astoreN X2.here hx rfl (hb hby at_17) rfl rfl (l' := #[.val (.int p1), .val (.int (1 : Int32)), .val (.ref a_ACCOUNT_LOCKED), .val (.ref h0.size)]) rfl ?_
    show Steps p.tables e below (T2.setTop (mkF m 18 #[.val (.int p1), .val (.int (1 : Int32)), .val (.ref a_ACCOUNT_LOCKED), .val (.ref h0.size)] [])) _
    refine XS.aloadN X2.here hx rfl (hb hby at_18) rfl rfl ?_
    show Steps p.tables e below (T2.setTop (mkF m 19 #[.val (.int p1), .val (.int (1 : Int32)), .val (.ref a_ACCOUNT_LOCKED), .val (.ref h0.size)] [(.ref h0.size)])) _
    refine st3.trans ?_
    show Steps p.tables e below (T3.setTop (mkF m 22 #[.val (.int p1), .val (.int (1 : Int32)), .val (.ref a_ACCOUNT_LOCKED), .val (.ref h0.size)] [(.int (0 : Int32))])) _
    refine XS.ifNo X3.here hx rfl (hb hby at_22) rfl (by decide) ?_
    show Steps p.tables e below (T3.setTop (mkF m 25 #[.val (.int p1), .val (.int (1 : Int32)), .val (.ref a_ACCOUNT_LOCKED), .val (.ref h0.size)] [])) _
    refine XS.aloadN X3.here hx rfl (hb hby at_25) rfl rfl ?_
    show Steps p.tables e below (T3.setTop (mkF m 26 #[.val (.int p1), .val (.int (1 : Int32)), .val (.ref a_ACCOUNT_LOCKED), .val (.ref h0.size)] [(.ref h0.size)])) _
    refine st4.trans ?_
    show Steps p.tables e below (T4.setTop (mkF m 29 #[.val (.int p1), .val (.int (1 : Int32)), .val (.ref a_ACCOUNT_LOCKED), .val (.ref h0.size)] [(.ref a_ACCOUNT_LOCKED)])) _
    refine XS.aloadN X4.here hx rfl (hb hby at_29) rfl rfl ?_
    show Steps p.tables e below (T4.setTop (mkF m 30 #[.val (.int p1), .val (.int (1 : Int32)), .val (.ref a_ACCOUNT_LOCKED), .val (.ref h0.size)] [(.ref a_ACCOUNT_LOCKED), (.ref a_ACCOUNT_LOCKED)])) _
    refine Jvm.RoadKit.acmp (g := (mkF m 30 #[.val (.int p1), .val (.int (1 : Int32)), .val (.ref a_ACCOUNT_LOCKED), .val (.ref h0.size)] [(.ref a_ACCOUNT_LOCKED), (.ref a_ACCOUNT_LOCKED)])) X4 hx rfl rfl rfl (pc0 := 30) (pc' := 33) (same := true) rfl (hb hby at_30) rfl (decide_eq_true rfl) (by decide) (by decide) ?_
    show Steps p.tables e below (T4.setTop (mkF m 33 #[.val (.int p1), .val (.int (1 : Int32)), .val (.ref a_ACCOUNT_LOCKED), .val (.ref h0.size)] [])) _
    refine XS.aloadN X4.here hx rfl (hb hby at_33) rfl rfl ?_
    show Steps p.tables e below (T4.setTop (mkF m 34 #[.val (.int p1), .val (.int (1 : Int32)), .val (.ref a_ACCOUNT_LOCKED), .val (.ref h0.size)] [(.ref h0.size)])) _
    refine st5.trans ?_
    show Steps p.tables e below (T5.setTop (mkF m 37 #[.val (.int p1), .val (.int (1 : Int32)), .val (.ref a_ACCOUNT_LOCKED), .val (.ref h0.size)] [.null])) _
    refine XS.ifnonnullNo X5.here hx rfl (hb hby at_37) rfl ?_
    show Steps p.tables e below (T5.setTop (mkF m 40 #[.val (.int p1), .val (.int (1 : Int32)), .val (.ref a_ACCOUNT_LOCKED), .val (.ref h0.size)] [])) _
    refine XS.aloadN X5.here hx rfl (hb hby at_40) rfl rfl ?_
    show Steps p.tables e below (T5.setTop (mkF m 41 #[.val (.int p1), .val (.int (1 : Int32)), .val (.ref a_ACCOUNT_LOCKED), .val (.ref h0.size)] [(.ref h0.size)])) _
    refine st6.trans ?_
    show Steps p.tables e below (T6.setTop (mkF m 44 #[.val (.int p1), .val (.int (1 : Int32)), .val (.ref a_ACCOUNT_LOCKED), .val (.ref h0.size)] [.null])) _
    refine XS.ifnonnullNo X6.here hx rfl (hb hby at_44) rfl ?_
    show Steps p.tables e below (T6.setTop (mkF m 47 #[.val (.int p1), .val (.int (1 : Int32)), .val (.ref a_ACCOUNT_LOCKED), .val (.ref h0.size)] [])) _
    refine XS.aloadN X6.here hx rfl (hb hby at_47) rfl rfl ?_
    show Steps p.tables e below (T6.setTop (mkF m 48 #[.val (.int p1), .val (.int (1 : Int32)), .val (.ref a_ACCOUNT_LOCKED), .val (.ref h0.size)] [(.ref h0.size)])) _
    refine st7.trans ?_
    show Steps p.tables e below (T7.setTop (mkF m 51 #[.val (.int p1), .val (.int (1 : Int32)), .val (.ref a_ACCOUNT_LOCKED), .val (.ref h0.size)] [.null])) _
    refine XS.ifnonnullNo X7.here hx rfl (hb hby at_51) rfl ?_
    show Steps p.tables e below (T7.setTop (mkF m 54 #[.val (.int p1), .val (.int (1 : Int32)), .val (.ref a_ACCOUNT_LOCKED), .val (.ref h0.size)] [])) _
    refine XS.iconst X7.here hx rfl (hb hby at_54) ?_
    show Steps p.tables e below (T7.setTop (mkF m 55 #[.val (.int p1), .val (.int (1 : Int32)), .val (.ref a_ACCOUNT_LOCKED), .val (.ref h0.size)] [(.int (1 : Int32))])) _
    refine XS.goto X7.here hx rfl (pc0 := 55) (pc' := 59) rfl (hb hby at_55) (by decide) (by decide) ?_
    show Steps p.tables e below (T7.setTop (mkF m 59 #[.val (.int p1), .val (.int (1 : Int32)), .val (.ref a_ACCOUNT_LOCKED), .val (.ref h0.size)] [(.int (1 : Int32))])) _
    exact retN X7 hx (t := .boolean) Bd.returns (by simp) (hb hby at_59) hr
  · show own_QL _ n0 _ T7.heap _
    exact ⟨rfl, N7⟩
set_option maxRecDepth 65536 in
set_option maxHeartbeats 40000000 in
theorem own_law_2 (l : Launch) (Z : State) (a0 : Array Value) (hw : ∀ d ∈ tables_1, d.before a0 Z = true) (ws : List Jvm.Cond) (a_PASSWORD_EXPIRED a_PASSWORD_MOD_NOT_ALLOWED a_ACCOUNT_LOCKED a_MUST_SUPPLY_OLD_PASSWORD a_PASSWORD_TOO_YOUNG a_CHANGE_AFTER_RESET a_PASSWORD_IN_HISTORY a_INSUFFICIENT_PASSWORD_QUALITY a_PASSWORD_TOO_SHORT : Addr) (p1 : Int32) (h0 : Heap) (n0 : Nat) (hp : own_Pin Z h0 a_PASSWORD_EXPIRED a_PASSWORD_MOD_NOT_ALLOWED a_ACCOUNT_LOCKED a_MUST_SUPPLY_OLD_PASSWORD a_PASSWORD_TOO_YOUNG a_CHANGE_AFTER_RESET a_PASSWORD_IN_HISTORY a_INSUFFICIENT_PASSWORD_QUALITY a_PASSWORD_TOO_SHORT) (Z0 : n0 ≤ h0.size) (hi : ((p1 &&& (2147483647 : Int32)) % (10 : Int32)) = (2 : Int32)) :
    MetFree l x (head1 (Jvm.Cond.code x code maxLocals ret :: ws) room_1) (fun a U => a = #[(.int p1)] ∧ Z.Warmed39 U.vm ∧ U.heap = h0) (fun _ _ _ _ _ => True) (fun _ U o U' => ∃ v L, o = .returned v ∧ own_QL (.int (1 : Int32)) n0 v U'.heap L ∧ FrameEnd U o U' L room_1.cells room_1.slots) := by
  have hp' := hp
  obtain ⟨S_PASSWORD_EXPIRED, S_PASSWORD_MOD_NOT_ALLOWED, S_ACCOUNT_LOCKED, S_MUST_SUPPLY_OLD_PASSWORD, S_PASSWORD_TOO_YOUNG, S_CHANGE_AFTER_RESET, S_PASSWORD_IN_HISTORY, S_INSUFFICIENT_PASSWORD_QUALITY, S_PASSWORD_TOO_SHORT, E_PASSWORD_EXPIRED, E_PASSWORD_MOD_NOT_ALLOWED, E_ACCOUNT_LOCKED, E_MUST_SUPPLY_OLD_PASSWORD, E_PASSWORD_TOO_YOUNG, E_CHANGE_AFTER_RESET, E_PASSWORD_IN_HISTORY, E_INSUFFICIENT_PASSWORD_QUALITY, E_PASSWORD_TOO_SHORT⟩ := hp'
  refine MetFree.of_bodySF (plainFor_of_name own_pn1) hisR ?_
  intro p e s m args below meth c s₁ Bd hml0 hP hK
  obtain ⟨rfl, hZ, hh⟩ := hP
  have hx := Bd.exec
  have hby := Bd.bytes
  have hml : c.maxLocals = 4 := hml0
  have hown : s.vm.findClass "com/example/passwarden/passwarden/core/ChangeDecisionRefusedPinLaw" = some m.cls := findClass_of_methodNamed Bd.named
  have X0 : Stand p l e room_1 s m #[(.int p1)] below meth c s₁ [] 0 0 := Stand.of_body Bd
  have e0 : s₁.heap = h0 := by rw [← hh, Bd.state]; rfl
  have N0 := Fr.nil n0
  have pre0 : ∀ t, Steps p.tables e below (s₁.setTop (mkF m 0 #[.val (.int p1), .unset, .unset, .unset] [])) t → Steps p.tables e below (s₁.setTop (entryFrame m #[(.int p1)] maxLocals)) t := fun t k => castTop (by first | (simp [entryFrame, mkF, argsToLocals, Value.category, maxLocals]; done) | rfl) k
  obtain ⟨_, _, ⟨T1, L1, k1, n1⟩, -, X1, ⟨Lc1, hQ1, l1, y1, z1⟩, st1⟩ := Jvm.LawKit.callS X0 hx (y := (⟨"com/example/passwarden/passwarden/core/ChangeDecisionRefusedPinLaw", "pick", "(I)Lcom/example/passwarden/passwarden/core/PolicyError;"⟩ : MethodName)) hown (mvT hZ (hw _ (List.mem_of_getElem? (i := 1) rfl))) (mvT hZ (hw _ (List.mem_of_getElem? (i := 2) rfl))) (mvT hZ (hw _ (List.mem_of_getElem? (i := 3) rfl))) (mvT hZ (hw _ (List.mem_of_getElem? (i := 4) rfl))) (by decide) (backOf (W := 0) (own_b1_2 l Z a0 hw [] a_PASSWORD_EXPIRED a_PASSWORD_MOD_NOT_ALLOWED a_ACCOUNT_LOCKED a_MUST_SUPPLY_OLD_PASSWORD a_PASSWORD_TOO_YOUNG a_CHANGE_AFTER_RESET a_PASSWORD_IN_HISTORY a_INSUFFICIENT_PASSWORD_QUALITY a_PASSWORD_TOO_SHORT  h0 n0 hp) hZ (hw _ (List.mem_of_getElem? (i := 4) rfl)) (hw _ (List.mem_of_getElem? (i := 3) rfl)) (by decide) (by decide)) (g := (mkF m 9 #[.val (.int p1), .val (.int (2 : Int32)), .unset, .unset] [(.int (2 : Int32))])) rfl (by rw [hml]; rfl) (argsL := [(.int (2 : Int32))]) (rest := []) (lenOf own_pd0 rfl) rfl (by show 2 * 0 + _ ≤ _; exact Nat.le_of_eq rfl) (hb hby at_9) (fun _ _ => ⟨rfl, e0, (by decide : 0 + 0 ≤ _), (by decide : 0 + 0 ≤ _)⟩)
  dsimp only [Pt.U, Pt.locs, Pt.cells, Pt.slots] at X1 l1 y1 z1 st1 hQ1
  subst l1 y1 z1
  obtain ⟨rfl, N1q, e1⟩ := hQ1
  have N1 := Fr.app N0 N1q
  obtain ⟨_, _, ⟨T2, L2, k2, n2⟩, -, X2, ⟨Lc2, hQ2, l2, y2, z2⟩, st2⟩ := Jvm.LawKit.callS X1 hx (y := (⟨"com/example/passwarden/passwarden/core/ChangeDecision", "refused", "(Lcom/example/passwarden/passwarden/core/PolicyError;)Lcom/example/passwarden/passwarden/core/ChangeDecision;"⟩ : MethodName)) hown (mvT hZ (hw _ (List.mem_of_getElem? (i := 8) rfl))) (mvT hZ (hw _ (List.mem_of_getElem? (i := 9) rfl))) (mvT hZ (hw _ (List.mem_of_getElem? (i := 10) rfl))) (mvT hZ (hw _ (List.mem_of_getElem? (i := 11) rfl))) (by decide) (backOf (W := 0) (own_refR l Z a0 hw [] a_CHANGE_AFTER_RESET h0 n0 Z0) hZ (hw _ (List.mem_of_getElem? (i := 11) rfl)) (hw _ (List.mem_of_getElem? (i := 10) rfl)) (by decide) (by decide)) (g := (mkF m 14 #[.val (.int p1), .val (.int (2 : Int32)), .val (.ref a_CHANGE_AFTER_RESET), .unset] [(.ref a_CHANGE_AFTER_RESET)])) rfl (by rw [hml]; rfl) (argsL := [(.ref a_CHANGE_AFTER_RESET)]) (rest := []) (lenOf own_pd1 rfl) rfl (by show 2 * 0 + _ ≤ _; exact Nat.le_of_eq rfl) (hb hby at_14) (fun _ _ => ⟨rfl, e1, (by decide : 0 + 1 ≤ _), (by decide : 0 + 5 ≤ _)⟩)
  dsimp only [Pt.U, Pt.locs, Pt.cells, Pt.slots] at X2 l2 y2 z2 st2 hQ2
  subst l2 y2 z2
  obtain ⟨rfl, N2q, E_obj, F_acc, F_err, F_pwd, F_sta, F_his⟩ := hQ2
  have e2 : T2.heap = T2.heap := rfl
  have N2 := Fr.app N1 N2q
  obtain ⟨cq3, kq3, q3a, q3b, q3c⟩ := isOf hZ e2 E_obj
  obtain ⟨_, _, ⟨T3, L3, k3, n3⟩, -, X3, ⟨Lc3, hQ3, l3, y3, z3⟩, st3⟩ := X2.virtualBack hx (y := (⟨"com/example/passwarden/passwarden/core/ChangeDecision", "isAccepted", "()Z"⟩ : MethodName)) (z := (⟨"com/example/passwarden/passwarden/core/ChangeDecision", "isAccepted", "()Z"⟩ : MethodName)) hown (mvT hZ (hw _ (List.mem_of_getElem? (i := 30) rfl))) (mvT hZ (hw _ (List.mem_of_getElem? (i := 31) rfl))) (notFace_of_selects (args := #[]) (mvT hZ (hw _ (List.mem_of_getElem? (i := 33) rfl)))) (mvT hZ (hw _ (List.mem_of_getElem? (i := 33) rfl))) (mvT hZ (hw _ (List.mem_of_getElem? (i := 32) rfl))) (by decide) (backOf (W := 0) (own_isAccepted l Z a0 hw [] h0.size _ n0 F_acc) hZ (hw _ (List.mem_of_getElem? (i := 34) rfl)) (hw _ (List.mem_of_getElem? (i := 10) rfl)) (by decide) (by decide)) q3a q3c (g := (mkF m 19 #[.val (.int p1), .val (.int (2 : Int32)), .val (.ref a_CHANGE_AFTER_RESET), .val (.ref h0.size)] [(.ref h0.size)])) rfl (by rw [hml]; rfl) (Steps.refl _) (argsL := []) (rest := []) (lenOf own_pd2 rfl) rfl (by show 2 * 0 + _ ≤ _; exact Nat.le_of_eq rfl) (hb hby at_19) (fun _ _ => ⟨rfl, e2, (by decide : 1 + 0 ≤ _), (by decide : 5 + 0 ≤ _)⟩)
  dsimp only [Pt.U, Pt.locs, Pt.cells, Pt.slots] at X3 l3 y3 z3 st3 hQ3
  subst l3 y3 z3
  obtain ⟨rfl, N3q, e3⟩ := hQ3
  have N3 := Fr.app N2 N3q
  obtain ⟨cq4, kq4, q4a, q4b, q4c⟩ := isOf hZ e3 E_obj
  obtain ⟨_, _, ⟨T4, L4, k4, n4⟩, -, X4, ⟨Lc4, hQ4, l4, y4, z4⟩, st4⟩ := X3.virtualBack hx (y := (⟨"com/example/passwarden/passwarden/core/ChangeDecision", "getError", "()Lcom/example/passwarden/passwarden/core/PolicyError;"⟩ : MethodName)) (z := (⟨"com/example/passwarden/passwarden/core/ChangeDecision", "getError", "()Lcom/example/passwarden/passwarden/core/PolicyError;"⟩ : MethodName)) hown (mvT hZ (hw _ (List.mem_of_getElem? (i := 35) rfl))) (mvT hZ (hw _ (List.mem_of_getElem? (i := 36) rfl))) (notFace_of_selects (args := #[]) (mvT hZ (hw _ (List.mem_of_getElem? (i := 38) rfl)))) (mvT hZ (hw _ (List.mem_of_getElem? (i := 38) rfl))) (mvT hZ (hw _ (List.mem_of_getElem? (i := 37) rfl))) (by decide) (backOf (W := 0) (own_getErrorR l Z a0 hw [] h0.size a_CHANGE_AFTER_RESET _ n0 F_err) hZ (hw _ (List.mem_of_getElem? (i := 39) rfl)) (hw _ (List.mem_of_getElem? (i := 10) rfl)) (by decide) (by decide)) q4a q4c (g := (mkF m 26 #[.val (.int p1), .val (.int (2 : Int32)), .val (.ref a_CHANGE_AFTER_RESET), .val (.ref h0.size)] [(.ref h0.size)])) rfl (by rw [hml]; rfl) (Steps.refl _) (argsL := []) (rest := []) (lenOf own_pd3 rfl) rfl (by show 2 * 0 + _ ≤ _; exact Nat.le_of_eq rfl) (hb hby at_26) (fun _ _ => ⟨rfl, e3, (by decide : 1 + 0 ≤ _), (by decide : 5 + 0 ≤ _)⟩)
  dsimp only [Pt.U, Pt.locs, Pt.cells, Pt.slots] at X4 l4 y4 z4 st4 hQ4
  subst l4 y4 z4
  obtain ⟨rfl, N4q, e4⟩ := hQ4
  have N4 := Fr.app N3 N4q
  obtain ⟨cq5, kq5, q5a, q5b, q5c⟩ := isOf hZ e4 E_obj
  obtain ⟨_, _, ⟨T5, L5, k5, n5⟩, -, X5, ⟨Lc5, hQ5, l5, y5, z5⟩, st5⟩ := X4.virtualBack hx (y := (⟨"com/example/passwarden/passwarden/core/ChangeDecision", "getStoredPassword", "()[B"⟩ : MethodName)) (z := (⟨"com/example/passwarden/passwarden/core/ChangeDecision", "getStoredPassword", "()[B"⟩ : MethodName)) hown (mvT hZ (hw _ (List.mem_of_getElem? (i := 40) rfl))) (mvT hZ (hw _ (List.mem_of_getElem? (i := 41) rfl))) (notFace_of_selects (args := #[]) (mvT hZ (hw _ (List.mem_of_getElem? (i := 43) rfl)))) (mvT hZ (hw _ (List.mem_of_getElem? (i := 43) rfl))) (mvT hZ (hw _ (List.mem_of_getElem? (i := 42) rfl))) (by decide) (backOf (W := 0) (own_getStoredPassword l Z a0 hw [] h0.size _ n0 F_pwd) hZ (hw _ (List.mem_of_getElem? (i := 44) rfl)) (hw _ (List.mem_of_getElem? (i := 10) rfl)) (by decide) (by decide)) q5a q5c (g := (mkF m 34 #[.val (.int p1), .val (.int (2 : Int32)), .val (.ref a_CHANGE_AFTER_RESET), .val (.ref h0.size)] [(.ref h0.size)])) rfl (by rw [hml]; rfl) (Steps.refl _) (argsL := []) (rest := []) (lenOf own_pd4 rfl) rfl (by show 2 * 0 + _ ≤ _; exact Nat.le_of_eq rfl) (hb hby at_34) (fun _ _ => ⟨rfl, e4, (by decide : 1 + 0 ≤ _), (by decide : 5 + 0 ≤ _)⟩)
  dsimp only [Pt.U, Pt.locs, Pt.cells, Pt.slots] at X5 l5 y5 z5 st5 hQ5
  subst l5 y5 z5
  obtain ⟨rfl, N5q, e5⟩ := hQ5
  have N5 := Fr.app N4 N5q
  obtain ⟨cq6, kq6, q6a, q6b, q6c⟩ := isOf hZ e5 E_obj
  obtain ⟨_, _, ⟨T6, L6, k6, n6⟩, -, X6, ⟨Lc6, hQ6, l6, y6, z6⟩, st6⟩ := X5.virtualBack hx (y := (⟨"com/example/passwarden/passwarden/core/ChangeDecision", "getState", "()Lcom/example/passwarden/passwarden/core/AccountState;"⟩ : MethodName)) (z := (⟨"com/example/passwarden/passwarden/core/ChangeDecision", "getState", "()Lcom/example/passwarden/passwarden/core/AccountState;"⟩ : MethodName)) hown (mvT hZ (hw _ (List.mem_of_getElem? (i := 45) rfl))) (mvT hZ (hw _ (List.mem_of_getElem? (i := 46) rfl))) (notFace_of_selects (args := #[]) (mvT hZ (hw _ (List.mem_of_getElem? (i := 48) rfl)))) (mvT hZ (hw _ (List.mem_of_getElem? (i := 48) rfl))) (mvT hZ (hw _ (List.mem_of_getElem? (i := 47) rfl))) (by decide) (backOf (W := 0) (own_getState l Z a0 hw [] h0.size _ n0 F_sta) hZ (hw _ (List.mem_of_getElem? (i := 49) rfl)) (hw _ (List.mem_of_getElem? (i := 10) rfl)) (by decide) (by decide)) q6a q6c (g := (mkF m 41 #[.val (.int p1), .val (.int (2 : Int32)), .val (.ref a_CHANGE_AFTER_RESET), .val (.ref h0.size)] [(.ref h0.size)])) rfl (by rw [hml]; rfl) (Steps.refl _) (argsL := []) (rest := []) (lenOf own_pd5 rfl) rfl (by show 2 * 0 + _ ≤ _; exact Nat.le_of_eq rfl) (hb hby at_41) (fun _ _ => ⟨rfl, e5, (by decide : 1 + 0 ≤ _), (by decide : 5 + 0 ≤ _)⟩)
  dsimp only [Pt.U, Pt.locs, Pt.cells, Pt.slots] at X6 l6 y6 z6 st6 hQ6
  subst l6 y6 z6
  obtain ⟨rfl, N6q, e6⟩ := hQ6
  have N6 := Fr.app N5 N6q
  obtain ⟨cq7, kq7, q7a, q7b, q7c⟩ := isOf hZ e6 E_obj
  obtain ⟨_, _, ⟨T7, L7, k7, n7⟩, -, X7, ⟨Lc7, hQ7, l7, y7, z7⟩, st7⟩ := X6.virtualBack hx (y := (⟨"com/example/passwarden/passwarden/core/ChangeDecision", "getHistory", "()Lcom/example/passwarden/passwarden/core/PasswordHistory;"⟩ : MethodName)) (z := (⟨"com/example/passwarden/passwarden/core/ChangeDecision", "getHistory", "()Lcom/example/passwarden/passwarden/core/PasswordHistory;"⟩ : MethodName)) hown (mvT hZ (hw _ (List.mem_of_getElem? (i := 50) rfl))) (mvT hZ (hw _ (List.mem_of_getElem? (i := 51) rfl))) (notFace_of_selects (args := #[]) (mvT hZ (hw _ (List.mem_of_getElem? (i := 53) rfl)))) (mvT hZ (hw _ (List.mem_of_getElem? (i := 53) rfl))) (mvT hZ (hw _ (List.mem_of_getElem? (i := 52) rfl))) (by decide) (backOf (W := 0) (own_getHistory l Z a0 hw [] h0.size _ n0 F_his) hZ (hw _ (List.mem_of_getElem? (i := 54) rfl)) (hw _ (List.mem_of_getElem? (i := 10) rfl)) (by decide) (by decide)) q7a q7c (g := (mkF m 48 #[.val (.int p1), .val (.int (2 : Int32)), .val (.ref a_CHANGE_AFTER_RESET), .val (.ref h0.size)] [(.ref h0.size)])) rfl (by rw [hml]; rfl) (Steps.refl _) (argsL := []) (rest := []) (lenOf own_pd6 rfl) rfl (by show 2 * 0 + _ ≤ _; exact Nat.le_of_eq rfl) (hb hby at_48) (fun _ _ => ⟨rfl, e6, (by decide : 1 + 0 ≤ _), (by decide : 5 + 0 ≤ _)⟩)
  dsimp only [Pt.U, Pt.locs, Pt.cells, Pt.slots] at X7 l7 y7 z7 st7 hQ7
  subst l7 y7 z7
  obtain ⟨rfl, N7q, e7⟩ := hQ7
  have N7 := Fr.app N6 N7q
  obtain ⟨fs, hr, hrun, hended, hW, hsame⟩ := X7.leave (v := some (.int (1 : Int32))) (fun h => by rw [Bd.returns] at h; cases h)
  refine ⟨_, _, pre0 _ ?_, hrun, hended, _, _, rfl, ?_, ⟨_, rfl⟩, hW, hsame.mono (by decide) (by decide)⟩
  · show Steps p.tables e below (s₁.setTop (mkF m 0 #[.val (.int p1), .unset, .unset, .unset] [])) _
    refine XS.iloadN X0.here hx rfl (hb hby at_0) rfl ?_
    show Steps p.tables e below (s₁.setTop (mkF m 1 #[.val (.int p1), .unset, .unset, .unset] [(.int p1)])) _
    refine X0.ldcInt hx hown (mvT hZ (hw _ (List.mem_of_getElem? (i := 0) rfl))) (g := (mkF m 1 #[.val (.int p1), .unset, .unset, .unset] [(.int p1)])) rfl (hb hby at_1) _ ?_
    show Steps p.tables e below (s₁.setTop (mkF m 3 #[.val (.int p1), .unset, .unset, .unset] [(.int (2147483647 : Int32)), (.int p1)])) _
    refine XS.iand X0.here hx rfl (hb hby at_3) rfl ?_
    show Steps p.tables e below (s₁.setTop (mkF m 4 #[.val (.int p1), .unset, .unset, .unset] [(.int (p1 &&& (2147483647 : Int32)))])) _
    refine XS.bipush X0.here hx rfl (hb hby at_4) ?_
    show Steps p.tables e below (s₁.setTop (mkF m 6 #[.val (.int p1), .unset, .unset, .unset] [(.int (10 : Int32)), (.int (p1 &&& (2147483647 : Int32)))])) _
    refine iremM (g := (mkF m 6 #[.val (.int p1), .unset, .unset, .unset] [(.int (10 : Int32)), (.int (p1 &&& (2147483647 : Int32)))])) X0 hx rfl (hb hby at_6) rfl (by decide) ?_
    show Steps p.tables e below (s₁.setTop (mkF m 7 #[.val (.int p1), .unset, .unset, .unset] [(.int ((p1 &&& (2147483647 : Int32)) % (10 : Int32)))])) _
    rewrite [hi]
    show Steps p.tables e below (s₁.setTop (mkF m 7 #[.val (.int p1), .unset, .unset, .unset] [(.int (2 : Int32))])) _
    refine XS.istoreN X0.here hx rfl (hb hby at_7) rfl (l' := #[.val (.int p1), .val (.int (2 : Int32)), .unset, .unset]) rfl ?_
    show Steps p.tables e below (s₁.setTop (mkF m 8 #[.val (.int p1), .val (.int (2 : Int32)), .unset, .unset] [])) _
    refine XS.iloadN X0.here hx rfl (hb hby at_8) rfl ?_
    show Steps p.tables e below (s₁.setTop (mkF m 9 #[.val (.int p1), .val (.int (2 : Int32)), .unset, .unset] [(.int (2 : Int32))])) _
    refine st1 _ ?_
    show Steps p.tables e below (T1.setTop (mkF m 12 #[.val (.int p1), .val (.int (2 : Int32)), .unset, .unset] [(.ref a_CHANGE_AFTER_RESET)])) _
    refine XS.astoreN X1.here hx rfl (hb hby at_12) rfl rfl (l' := #[.val (.int p1), .val (.int (2 : Int32)), .val (.ref a_CHANGE_AFTER_RESET), .unset]) rfl ?_
    show Steps p.tables e below (T1.setTop (mkF m 13 #[.val (.int p1), .val (.int (2 : Int32)), .val (.ref a_CHANGE_AFTER_RESET), .unset] [])) _
    refine XS.aloadN X1.here hx rfl (hb hby at_13) rfl rfl ?_
    show Steps p.tables e below (T1.setTop (mkF m 14 #[.val (.int p1), .val (.int (2 : Int32)), .val (.ref a_CHANGE_AFTER_RESET), .unset] [(.ref a_CHANGE_AFTER_RESET)])) _
    refine st2 _ ?_
    show Steps p.tables e below (T2.setTop (mkF m 17 #[.val (.int p1), .val (.int (2 : Int32)), .val (.ref a_CHANGE_AFTER_RESET), .unset] [(.ref h0.size)])) _
    refine XS.astoreN X2.here hx rfl (hb hby at_17) rfl rfl (l' := #[.val (.int p1), .val (.int (2 : Int32)), .val (.ref a_CHANGE_AFTER_RESET), .val (.ref h0.size)]) rfl ?_
    show Steps p.tables e below (T2.setTop (mkF m 18 #[.val (.int p1), .val (.int (2 : Int32)), .val (.ref a_CHANGE_AFTER_RESET), .val (.ref h0.size)] [])) _
    refine XS.aloadN X2.here hx rfl (hb hby at_18) rfl rfl ?_
    show Steps p.tables e below (T2.setTop (mkF m 19 #[.val (.int p1), .val (.int (2 : Int32)), .val (.ref a_CHANGE_AFTER_RESET), .val (.ref h0.size)] [(.ref h0.size)])) _
    refine st3.trans ?_
    show Steps p.tables e below (T3.setTop (mkF m 22 #[.val (.int p1), .val (.int (2 : Int32)), .val (.ref a_CHANGE_AFTER_RESET), .val (.ref h0.size)] [(.int (0 : Int32))])) _
    refine XS.ifNo X3.here hx rfl (hb hby at_22) rfl (by decide) ?_
    show Steps p.tables e below (T3.setTop (mkF m 25 #[.val (.int p1), .val (.int (2 : Int32)), .val (.ref a_CHANGE_AFTER_RESET), .val (.ref h0.size)] [])) _
    refine XS.aloadN X3.here hx rfl (hb hby at_25) rfl rfl ?_
    show Steps p.tables e below (T3.setTop (mkF m 26 #[.val (.int p1), .val (.int (2 : Int32)), .val (.ref a_CHANGE_AFTER_RESET), .val (.ref h0.size)] [(.ref h0.size)])) _
    refine st4.trans ?_
    show Steps p.tables e below (T4.setTop (mkF m 29 #[.val (.int p1), .val (.int (2 : Int32)), .val (.ref a_CHANGE_AFTER_RESET), .val (.ref h0.size)] [(.ref a_CHANGE_AFTER_RESET)])) _
    refine XS.aloadN X4.here hx rfl (hb hby at_29) rfl rfl ?_
    show Steps p.tables e below (T4.setTop (mkF m 30 #[.val (.int p1), .val (.int (2 : Int32)), .val (.ref a_CHANGE_AFTER_RESET), .val (.ref h0.size)] [(.ref a_CHANGE_AFTER_RESET), (.ref a_CHANGE_AFTER_RESET)])) _
    refine Jvm.RoadKit.acmp (g := (mkF m 30 #[.val (.int p1), .val (.int (2 : Int32)), .val (.ref a_CHANGE_AFTER_RESET), .val (.ref h0.size)] [(.ref a_CHANGE_AFTER_RESET), (.ref a_CHANGE_AFTER_RESET)])) X4 hx rfl rfl rfl (pc0 := 30) (pc' := 33) (same := true) rfl (hb hby at_30) rfl (decide_eq_true rfl) (by decide) (by decide) ?_
    show Steps p.tables e below (T4.setTop (mkF m 33 #[.val (.int p1), .val (.int (2 : Int32)), .val (.ref a_CHANGE_AFTER_RESET), .val (.ref h0.size)] [])) _
    refine XS.aloadN X4.here hx rfl (hb hby at_33) rfl rfl ?_
    show Steps p.tables e below (T4.setTop (mkF m 34 #[.val (.int p1), .val (.int (2 : Int32)), .val (.ref a_CHANGE_AFTER_RESET), .val (.ref h0.size)] [(.ref h0.size)])) _
    refine st5.trans ?_
    show Steps p.tables e below (T5.setTop (mkF m 37 #[.val (.int p1), .val (.int (2 : Int32)), .val (.ref a_CHANGE_AFTER_RESET), .val (.ref h0.size)] [.null])) _
    refine XS.ifnonnullNo X5.here hx rfl (hb hby at_37) rfl ?_
    show Steps p.tables e below (T5.setTop (mkF m 40 #[.val (.int p1), .val (.int (2 : Int32)), .val (.ref a_CHANGE_AFTER_RESET), .val (.ref h0.size)] [])) _
    refine XS.aloadN X5.here hx rfl (hb hby at_40) rfl rfl ?_
    show Steps p.tables e below (T5.setTop (mkF m 41 #[.val (.int p1), .val (.int (2 : Int32)), .val (.ref a_CHANGE_AFTER_RESET), .val (.ref h0.size)] [(.ref h0.size)])) _
    refine st6.trans ?_
    show Steps p.tables e below (T6.setTop (mkF m 44 #[.val (.int p1), .val (.int (2 : Int32)), .val (.ref a_CHANGE_AFTER_RESET), .val (.ref h0.size)] [.null])) _
    refine XS.ifnonnullNo X6.here hx rfl (hb hby at_44) rfl ?_
    show Steps p.tables e below (T6.setTop (mkF m 47 #[.val (.int p1), .val (.int (2 : Int32)), .val (.ref a_CHANGE_AFTER_RESET), .val (.ref h0.size)] [])) _
    refine XS.aloadN X6.here hx rfl (hb hby at_47) rfl rfl ?_
    show Steps p.tables e below (T6.setTop (mkF m 48 #[.val (.int p1), .val (.int (2 : Int32)), .val (.ref a_CHANGE_AFTER_RESET), .val (.ref h0.size)] [(.ref h0.size)])) _
    refine st7.trans ?_
    show Steps p.tables e below (T7.setTop (mkF m 51 #[.val (.int p1), .val (.int (2 : Int32)), .val (.ref a_CHANGE_AFTER_RESET), .val (.ref h0.size)] [.null])) _
    refine XS.ifnonnullNo X7.here hx rfl (hb hby at_51) rfl ?_
    show Steps p.tables e below (T7.setTop (mkF m 54 #[.val (.int p1), .val (.int (2 : Int32)), .val (.ref a_CHANGE_AFTER_RESET), .val (.ref h0.size)] [])) _
    refine XS.iconst X7.here hx rfl (hb hby at_54) ?_
    show Steps p.tables e below (T7.setTop (mkF m 55 #[.val (.int p1), .val (.int (2 : Int32)), .val (.ref a_CHANGE_AFTER_RESET), .val (.ref h0.size)] [(.int (1 : Int32))])) _
    refine XS.goto X7.here hx rfl (pc0 := 55) (pc' := 59) rfl (hb hby at_55) (by decide) (by decide) ?_
    show Steps p.tables e below (T7.setTop (mkF m 59 #[.val (.int p1), .val (.int (2 : Int32)), .val (.ref a_CHANGE_AFTER_RESET), .val (.ref h0.size)] [(.int (1 : Int32))])) _
    exact retN X7 hx (t := .boolean) Bd.returns (by simp) (hb hby at_59) hr
  · show own_QL _ n0 _ T7.heap _
    exact ⟨rfl, N7⟩
set_option maxRecDepth 65536 in
set_option maxHeartbeats 40000000 in
theorem own_law_3 (l : Launch) (Z : State) (a0 : Array Value) (hw : ∀ d ∈ tables_1, d.before a0 Z = true) (ws : List Jvm.Cond) (a_PASSWORD_EXPIRED a_PASSWORD_MOD_NOT_ALLOWED a_ACCOUNT_LOCKED a_MUST_SUPPLY_OLD_PASSWORD a_PASSWORD_TOO_YOUNG a_CHANGE_AFTER_RESET a_PASSWORD_IN_HISTORY a_INSUFFICIENT_PASSWORD_QUALITY a_PASSWORD_TOO_SHORT : Addr) (p1 : Int32) (h0 : Heap) (n0 : Nat) (hp : own_Pin Z h0 a_PASSWORD_EXPIRED a_PASSWORD_MOD_NOT_ALLOWED a_ACCOUNT_LOCKED a_MUST_SUPPLY_OLD_PASSWORD a_PASSWORD_TOO_YOUNG a_CHANGE_AFTER_RESET a_PASSWORD_IN_HISTORY a_INSUFFICIENT_PASSWORD_QUALITY a_PASSWORD_TOO_SHORT) (Z0 : n0 ≤ h0.size) (hi : ((p1 &&& (2147483647 : Int32)) % (10 : Int32)) = (3 : Int32)) :
    MetFree l x (head1 (Jvm.Cond.code x code maxLocals ret :: ws) room_1) (fun a U => a = #[(.int p1)] ∧ Z.Warmed39 U.vm ∧ U.heap = h0) (fun _ _ _ _ _ => True) (fun _ U o U' => ∃ v L, o = .returned v ∧ own_QL (.int (1 : Int32)) n0 v U'.heap L ∧ FrameEnd U o U' L room_1.cells room_1.slots) := by
  have hp' := hp
  obtain ⟨S_PASSWORD_EXPIRED, S_PASSWORD_MOD_NOT_ALLOWED, S_ACCOUNT_LOCKED, S_MUST_SUPPLY_OLD_PASSWORD, S_PASSWORD_TOO_YOUNG, S_CHANGE_AFTER_RESET, S_PASSWORD_IN_HISTORY, S_INSUFFICIENT_PASSWORD_QUALITY, S_PASSWORD_TOO_SHORT, E_PASSWORD_EXPIRED, E_PASSWORD_MOD_NOT_ALLOWED, E_ACCOUNT_LOCKED, E_MUST_SUPPLY_OLD_PASSWORD, E_PASSWORD_TOO_YOUNG, E_CHANGE_AFTER_RESET, E_PASSWORD_IN_HISTORY, E_INSUFFICIENT_PASSWORD_QUALITY, E_PASSWORD_TOO_SHORT⟩ := hp'
  refine MetFree.of_bodySF (plainFor_of_name own_pn1) hisR ?_
  intro p e s m args below meth c s₁ Bd hml0 hP hK
  obtain ⟨rfl, hZ, hh⟩ := hP
  have hx := Bd.exec
  have hby := Bd.bytes
  have hml : c.maxLocals = 4 := hml0
  have hown : s.vm.findClass "com/example/passwarden/passwarden/core/ChangeDecisionRefusedPinLaw" = some m.cls := findClass_of_methodNamed Bd.named
  have X0 : Stand p l e room_1 s m #[(.int p1)] below meth c s₁ [] 0 0 := Stand.of_body Bd
  have e0 : s₁.heap = h0 := by rw [← hh, Bd.state]; rfl
  have N0 := Fr.nil n0
  have pre0 : ∀ t, Steps p.tables e below (s₁.setTop (mkF m 0 #[.val (.int p1), .unset, .unset, .unset] [])) t → Steps p.tables e below (s₁.setTop (entryFrame m #[(.int p1)] maxLocals)) t := fun t k => castTop (by first | (simp [entryFrame, mkF, argsToLocals, Value.category, maxLocals]; done) | rfl) k
  obtain ⟨_, _, ⟨T1, L1, k1, n1⟩, -, X1, ⟨Lc1, hQ1, l1, y1, z1⟩, st1⟩ := Jvm.LawKit.callS X0 hx (y := (⟨"com/example/passwarden/passwarden/core/ChangeDecisionRefusedPinLaw", "pick", "(I)Lcom/example/passwarden/passwarden/core/PolicyError;"⟩ : MethodName)) hown (mvT hZ (hw _ (List.mem_of_getElem? (i := 1) rfl))) (mvT hZ (hw _ (List.mem_of_getElem? (i := 2) rfl))) (mvT hZ (hw _ (List.mem_of_getElem? (i := 3) rfl))) (mvT hZ (hw _ (List.mem_of_getElem? (i := 4) rfl))) (by decide) (backOf (W := 0) (own_b1_3 l Z a0 hw [] a_PASSWORD_EXPIRED a_PASSWORD_MOD_NOT_ALLOWED a_ACCOUNT_LOCKED a_MUST_SUPPLY_OLD_PASSWORD a_PASSWORD_TOO_YOUNG a_CHANGE_AFTER_RESET a_PASSWORD_IN_HISTORY a_INSUFFICIENT_PASSWORD_QUALITY a_PASSWORD_TOO_SHORT  h0 n0 hp) hZ (hw _ (List.mem_of_getElem? (i := 4) rfl)) (hw _ (List.mem_of_getElem? (i := 3) rfl)) (by decide) (by decide)) (g := (mkF m 9 #[.val (.int p1), .val (.int (3 : Int32)), .unset, .unset] [(.int (3 : Int32))])) rfl (by rw [hml]; rfl) (argsL := [(.int (3 : Int32))]) (rest := []) (lenOf own_pd0 rfl) rfl (by show 2 * 0 + _ ≤ _; exact Nat.le_of_eq rfl) (hb hby at_9) (fun _ _ => ⟨rfl, e0, (by decide : 0 + 0 ≤ _), (by decide : 0 + 0 ≤ _)⟩)
  dsimp only [Pt.U, Pt.locs, Pt.cells, Pt.slots] at X1 l1 y1 z1 st1 hQ1
  subst l1 y1 z1
  obtain ⟨rfl, N1q, e1⟩ := hQ1
  have N1 := Fr.app N0 N1q
  obtain ⟨_, _, ⟨T2, L2, k2, n2⟩, -, X2, ⟨Lc2, hQ2, l2, y2, z2⟩, st2⟩ := Jvm.LawKit.callS X1 hx (y := (⟨"com/example/passwarden/passwarden/core/ChangeDecision", "refused", "(Lcom/example/passwarden/passwarden/core/PolicyError;)Lcom/example/passwarden/passwarden/core/ChangeDecision;"⟩ : MethodName)) hown (mvT hZ (hw _ (List.mem_of_getElem? (i := 8) rfl))) (mvT hZ (hw _ (List.mem_of_getElem? (i := 9) rfl))) (mvT hZ (hw _ (List.mem_of_getElem? (i := 10) rfl))) (mvT hZ (hw _ (List.mem_of_getElem? (i := 11) rfl))) (by decide) (backOf (W := 0) (own_refR l Z a0 hw [] a_PASSWORD_MOD_NOT_ALLOWED h0 n0 Z0) hZ (hw _ (List.mem_of_getElem? (i := 11) rfl)) (hw _ (List.mem_of_getElem? (i := 10) rfl)) (by decide) (by decide)) (g := (mkF m 14 #[.val (.int p1), .val (.int (3 : Int32)), .val (.ref a_PASSWORD_MOD_NOT_ALLOWED), .unset] [(.ref a_PASSWORD_MOD_NOT_ALLOWED)])) rfl (by rw [hml]; rfl) (argsL := [(.ref a_PASSWORD_MOD_NOT_ALLOWED)]) (rest := []) (lenOf own_pd1 rfl) rfl (by show 2 * 0 + _ ≤ _; exact Nat.le_of_eq rfl) (hb hby at_14) (fun _ _ => ⟨rfl, e1, (by decide : 0 + 1 ≤ _), (by decide : 0 + 5 ≤ _)⟩)
  dsimp only [Pt.U, Pt.locs, Pt.cells, Pt.slots] at X2 l2 y2 z2 st2 hQ2
  subst l2 y2 z2
  obtain ⟨rfl, N2q, E_obj, F_acc, F_err, F_pwd, F_sta, F_his⟩ := hQ2
  have e2 : T2.heap = T2.heap := rfl
  have N2 := Fr.app N1 N2q
  obtain ⟨cq3, kq3, q3a, q3b, q3c⟩ := isOf hZ e2 E_obj
  obtain ⟨_, _, ⟨T3, L3, k3, n3⟩, -, X3, ⟨Lc3, hQ3, l3, y3, z3⟩, st3⟩ := X2.virtualBack hx (y := (⟨"com/example/passwarden/passwarden/core/ChangeDecision", "isAccepted", "()Z"⟩ : MethodName)) (z := (⟨"com/example/passwarden/passwarden/core/ChangeDecision", "isAccepted", "()Z"⟩ : MethodName)) hown (mvT hZ (hw _ (List.mem_of_getElem? (i := 30) rfl))) (mvT hZ (hw _ (List.mem_of_getElem? (i := 31) rfl))) (notFace_of_selects (args := #[]) (mvT hZ (hw _ (List.mem_of_getElem? (i := 33) rfl)))) (mvT hZ (hw _ (List.mem_of_getElem? (i := 33) rfl))) (mvT hZ (hw _ (List.mem_of_getElem? (i := 32) rfl))) (by decide) (backOf (W := 0) (own_isAccepted l Z a0 hw [] h0.size _ n0 F_acc) hZ (hw _ (List.mem_of_getElem? (i := 34) rfl)) (hw _ (List.mem_of_getElem? (i := 10) rfl)) (by decide) (by decide)) q3a q3c (g := (mkF m 19 #[.val (.int p1), .val (.int (3 : Int32)), .val (.ref a_PASSWORD_MOD_NOT_ALLOWED), .val (.ref h0.size)] [(.ref h0.size)])) rfl (by rw [hml]; rfl) (Steps.refl _) (argsL := []) (rest := []) (lenOf own_pd2 rfl) rfl (by show 2 * 0 + _ ≤ _; exact Nat.le_of_eq rfl) (hb hby at_19) (fun _ _ => ⟨rfl, e2, (by decide : 1 + 0 ≤ _), (by decide : 5 + 0 ≤ _)⟩)
  dsimp only [Pt.U, Pt.locs, Pt.cells, Pt.slots] at X3 l3 y3 z3 st3 hQ3
  subst l3 y3 z3
  obtain ⟨rfl, N3q, e3⟩ := hQ3
  have N3 := Fr.app N2 N3q
  obtain ⟨cq4, kq4, q4a, q4b, q4c⟩ := isOf hZ e3 E_obj
  obtain ⟨_, _, ⟨T4, L4, k4, n4⟩, -, X4, ⟨Lc4, hQ4, l4, y4, z4⟩, st4⟩ := X3.virtualBack hx (y := (⟨"com/example/passwarden/passwarden/core/ChangeDecision", "getError", "()Lcom/example/passwarden/passwarden/core/PolicyError;"⟩ : MethodName)) (z := (⟨"com/example/passwarden/passwarden/core/ChangeDecision", "getError", "()Lcom/example/passwarden/passwarden/core/PolicyError;"⟩ : MethodName)) hown (mvT hZ (hw _ (List.mem_of_getElem? (i := 35) rfl))) (mvT hZ (hw _ (List.mem_of_getElem? (i := 36) rfl))) (notFace_of_selects (args := #[]) (mvT hZ (hw _ (List.mem_of_getElem? (i := 38) rfl)))) (mvT hZ (hw _ (List.mem_of_getElem? (i := 38) rfl))) (mvT hZ (hw _ (List.mem_of_getElem? (i := 37) rfl))) (by decide) (backOf (W := 0) (own_getErrorR l Z a0 hw [] h0.size a_PASSWORD_MOD_NOT_ALLOWED _ n0 F_err) hZ (hw _ (List.mem_of_getElem? (i := 39) rfl)) (hw _ (List.mem_of_getElem? (i := 10) rfl)) (by decide) (by decide)) q4a q4c (g := (mkF m 26 #[.val (.int p1), .val (.int (3 : Int32)), .val (.ref a_PASSWORD_MOD_NOT_ALLOWED), .val (.ref h0.size)] [(.ref h0.size)])) rfl (by rw [hml]; rfl) (Steps.refl _) (argsL := []) (rest := []) (lenOf own_pd3 rfl) rfl (by show 2 * 0 + _ ≤ _; exact Nat.le_of_eq rfl) (hb hby at_26) (fun _ _ => ⟨rfl, e3, (by decide : 1 + 0 ≤ _), (by decide : 5 + 0 ≤ _)⟩)
  dsimp only [Pt.U, Pt.locs, Pt.cells, Pt.slots] at X4 l4 y4 z4 st4 hQ4
  subst l4 y4 z4
  obtain ⟨rfl, N4q, e4⟩ := hQ4
  have N4 := Fr.app N3 N4q
  obtain ⟨cq5, kq5, q5a, q5b, q5c⟩ := isOf hZ e4 E_obj
  obtain ⟨_, _, ⟨T5, L5, k5, n5⟩, -, X5, ⟨Lc5, hQ5, l5, y5, z5⟩, st5⟩ := X4.virtualBack hx (y := (⟨"com/example/passwarden/passwarden/core/ChangeDecision", "getStoredPassword", "()[B"⟩ : MethodName)) (z := (⟨"com/example/passwarden/passwarden/core/ChangeDecision", "getStoredPassword", "()[B"⟩ : MethodName)) hown (mvT hZ (hw _ (List.mem_of_getElem? (i := 40) rfl))) (mvT hZ (hw _ (List.mem_of_getElem? (i := 41) rfl))) (notFace_of_selects (args := #[]) (mvT hZ (hw _ (List.mem_of_getElem? (i := 43) rfl)))) (mvT hZ (hw _ (List.mem_of_getElem? (i := 43) rfl))) (mvT hZ (hw _ (List.mem_of_getElem? (i := 42) rfl))) (by decide) (backOf (W := 0) (own_getStoredPassword l Z a0 hw [] h0.size _ n0 F_pwd) hZ (hw _ (List.mem_of_getElem? (i := 44) rfl)) (hw _ (List.mem_of_getElem? (i := 10) rfl)) (by decide) (by decide)) q5a q5c (g := (mkF m 34 #[.val (.int p1), .val (.int (3 : Int32)), .val (.ref a_PASSWORD_MOD_NOT_ALLOWED), .val (.ref h0.size)] [(.ref h0.size)])) rfl (by rw [hml]; rfl) (Steps.refl _) (argsL := []) (rest := []) (lenOf own_pd4 rfl) rfl (by show 2 * 0 + _ ≤ _; exact Nat.le_of_eq rfl) (hb hby at_34) (fun _ _ => ⟨rfl, e4, (by decide : 1 + 0 ≤ _), (by decide : 5 + 0 ≤ _)⟩)
  dsimp only [Pt.U, Pt.locs, Pt.cells, Pt.slots] at X5 l5 y5 z5 st5 hQ5
  subst l5 y5 z5
  obtain ⟨rfl, N5q, e5⟩ := hQ5
  have N5 := Fr.app N4 N5q
  obtain ⟨cq6, kq6, q6a, q6b, q6c⟩ := isOf hZ e5 E_obj
  obtain ⟨_, _, ⟨T6, L6, k6, n6⟩, -, X6, ⟨Lc6, hQ6, l6, y6, z6⟩, st6⟩ := X5.virtualBack hx (y := (⟨"com/example/passwarden/passwarden/core/ChangeDecision", "getState", "()Lcom/example/passwarden/passwarden/core/AccountState;"⟩ : MethodName)) (z := (⟨"com/example/passwarden/passwarden/core/ChangeDecision", "getState", "()Lcom/example/passwarden/passwarden/core/AccountState;"⟩ : MethodName)) hown (mvT hZ (hw _ (List.mem_of_getElem? (i := 45) rfl))) (mvT hZ (hw _ (List.mem_of_getElem? (i := 46) rfl))) (notFace_of_selects (args := #[]) (mvT hZ (hw _ (List.mem_of_getElem? (i := 48) rfl)))) (mvT hZ (hw _ (List.mem_of_getElem? (i := 48) rfl))) (mvT hZ (hw _ (List.mem_of_getElem? (i := 47) rfl))) (by decide) (backOf (W := 0) (own_getState l Z a0 hw [] h0.size _ n0 F_sta) hZ (hw _ (List.mem_of_getElem? (i := 49) rfl)) (hw _ (List.mem_of_getElem? (i := 10) rfl)) (by decide) (by decide)) q6a q6c (g := (mkF m 41 #[.val (.int p1), .val (.int (3 : Int32)), .val (.ref a_PASSWORD_MOD_NOT_ALLOWED), .val (.ref h0.size)] [(.ref h0.size)])) rfl (by rw [hml]; rfl) (Steps.refl _) (argsL := []) (rest := []) (lenOf own_pd5 rfl) rfl (by show 2 * 0 + _ ≤ _; exact Nat.le_of_eq rfl) (hb hby at_41) (fun _ _ => ⟨rfl, e5, (by decide : 1 + 0 ≤ _), (by decide : 5 + 0 ≤ _)⟩)
  dsimp only [Pt.U, Pt.locs, Pt.cells, Pt.slots] at X6 l6 y6 z6 st6 hQ6
  subst l6 y6 z6
  obtain ⟨rfl, N6q, e6⟩ := hQ6
  have N6 := Fr.app N5 N6q
  obtain ⟨cq7, kq7, q7a, q7b, q7c⟩ := isOf hZ e6 E_obj
  obtain ⟨_, _, ⟨T7, L7, k7, n7⟩, -, X7, ⟨Lc7, hQ7, l7, y7, z7⟩, st7⟩ := X6.virtualBack hx (y := (⟨"com/example/passwarden/passwarden/core/ChangeDecision", "getHistory", "()Lcom/example/passwarden/passwarden/core/PasswordHistory;"⟩ : MethodName)) (z := (⟨"com/example/passwarden/passwarden/core/ChangeDecision", "getHistory", "()Lcom/example/passwarden/passwarden/core/PasswordHistory;"⟩ : MethodName)) hown (mvT hZ (hw _ (List.mem_of_getElem? (i := 50) rfl))) (mvT hZ (hw _ (List.mem_of_getElem? (i := 51) rfl))) (notFace_of_selects (args := #[]) (mvT hZ (hw _ (List.mem_of_getElem? (i := 53) rfl)))) (mvT hZ (hw _ (List.mem_of_getElem? (i := 53) rfl))) (mvT hZ (hw _ (List.mem_of_getElem? (i := 52) rfl))) (by decide) (backOf (W := 0) (own_getHistory l Z a0 hw [] h0.size _ n0 F_his) hZ (hw _ (List.mem_of_getElem? (i := 54) rfl)) (hw _ (List.mem_of_getElem? (i := 10) rfl)) (by decide) (by decide)) q7a q7c (g := (mkF m 48 #[.val (.int p1), .val (.int (3 : Int32)), .val (.ref a_PASSWORD_MOD_NOT_ALLOWED), .val (.ref h0.size)] [(.ref h0.size)])) rfl (by rw [hml]; rfl) (Steps.refl _) (argsL := []) (rest := []) (lenOf own_pd6 rfl) rfl (by show 2 * 0 + _ ≤ _; exact Nat.le_of_eq rfl) (hb hby at_48) (fun _ _ => ⟨rfl, e6, (by decide : 1 + 0 ≤ _), (by decide : 5 + 0 ≤ _)⟩)
  dsimp only [Pt.U, Pt.locs, Pt.cells, Pt.slots] at X7 l7 y7 z7 st7 hQ7
  subst l7 y7 z7
  obtain ⟨rfl, N7q, e7⟩ := hQ7
  have N7 := Fr.app N6 N7q
  obtain ⟨fs, hr, hrun, hended, hW, hsame⟩ := X7.leave (v := some (.int (1 : Int32))) (fun h => by rw [Bd.returns] at h; cases h)
  refine ⟨_, _, pre0 _ ?_, hrun, hended, _, _, rfl, ?_, ⟨_, rfl⟩, hW, hsame.mono (by decide) (by decide)⟩
  · show Steps p.tables e below (s₁.setTop (mkF m 0 #[.val (.int p1), .unset, .unset, .unset] [])) _
    refine XS.iloadN X0.here hx rfl (hb hby at_0) rfl ?_
    show Steps p.tables e below (s₁.setTop (mkF m 1 #[.val (.int p1), .unset, .unset, .unset] [(.int p1)])) _
    refine X0.ldcInt hx hown (mvT hZ (hw _ (List.mem_of_getElem? (i := 0) rfl))) (g := (mkF m 1 #[.val (.int p1), .unset, .unset, .unset] [(.int p1)])) rfl (hb hby at_1) _ ?_
    show Steps p.tables e below (s₁.setTop (mkF m 3 #[.val (.int p1), .unset, .unset, .unset] [(.int (2147483647 : Int32)), (.int p1)])) _
    refine XS.iand X0.here hx rfl (hb hby at_3) rfl ?_
    show Steps p.tables e below (s₁.setTop (mkF m 4 #[.val (.int p1), .unset, .unset, .unset] [(.int (p1 &&& (2147483647 : Int32)))])) _
    refine XS.bipush X0.here hx rfl (hb hby at_4) ?_
    show Steps p.tables e below (s₁.setTop (mkF m 6 #[.val (.int p1), .unset, .unset, .unset] [(.int (10 : Int32)), (.int (p1 &&& (2147483647 : Int32)))])) _
    refine iremM (g := (mkF m 6 #[.val (.int p1), .unset, .unset, .unset] [(.int (10 : Int32)), (.int (p1 &&& (2147483647 : Int32)))])) X0 hx rfl (hb hby at_6) rfl (by decide) ?_
    show Steps p.tables e below (s₁.setTop (mkF m 7 #[.val (.int p1), .unset, .unset, .unset] [(.int ((p1 &&& (2147483647 : Int32)) % (10 : Int32)))])) _
    rewrite [hi]
    show Steps p.tables e below (s₁.setTop (mkF m 7 #[.val (.int p1), .unset, .unset, .unset] [(.int (3 : Int32))])) _
    refine XS.istoreN X0.here hx rfl (hb hby at_7) rfl (l' := #[.val (.int p1), .val (.int (3 : Int32)), .unset, .unset]) rfl ?_
    show Steps p.tables e below (s₁.setTop (mkF m 8 #[.val (.int p1), .val (.int (3 : Int32)), .unset, .unset] [])) _
    refine XS.iloadN X0.here hx rfl (hb hby at_8) rfl ?_
    show Steps p.tables e below (s₁.setTop (mkF m 9 #[.val (.int p1), .val (.int (3 : Int32)), .unset, .unset] [(.int (3 : Int32))])) _
    refine st1 _ ?_
    show Steps p.tables e below (T1.setTop (mkF m 12 #[.val (.int p1), .val (.int (3 : Int32)), .unset, .unset] [(.ref a_PASSWORD_MOD_NOT_ALLOWED)])) _
    refine XS.astoreN X1.here hx rfl (hb hby at_12) rfl rfl (l' := #[.val (.int p1), .val (.int (3 : Int32)), .val (.ref a_PASSWORD_MOD_NOT_ALLOWED), .unset]) rfl ?_
    show Steps p.tables e below (T1.setTop (mkF m 13 #[.val (.int p1), .val (.int (3 : Int32)), .val (.ref a_PASSWORD_MOD_NOT_ALLOWED), .unset] [])) _
    refine XS.aloadN X1.here hx rfl (hb hby at_13) rfl rfl ?_
    show Steps p.tables e below (T1.setTop (mkF m 14 #[.val (.int p1), .val (.int (3 : Int32)), .val (.ref a_PASSWORD_MOD_NOT_ALLOWED), .unset] [(.ref a_PASSWORD_MOD_NOT_ALLOWED)])) _
    refine st2 _ ?_
    show Steps p.tables e below (T2.setTop (mkF m 17 #[.val (.int p1), .val (.int (3 : Int32)), .val (.ref a_PASSWORD_MOD_NOT_ALLOWED), .unset] [(.ref h0.size)])) _
    refine XS.astoreN X2.here hx rfl (hb hby at_17) rfl rfl (l' := #[.val (.int p1), .val (.int (3 : Int32)), .val (.ref a_PASSWORD_MOD_NOT_ALLOWED), .val (.ref h0.size)]) rfl ?_
    show Steps p.tables e below (T2.setTop (mkF m 18 #[.val (.int p1), .val (.int (3 : Int32)), .val (.ref a_PASSWORD_MOD_NOT_ALLOWED), .val (.ref h0.size)] [])) _
    refine XS.aloadN X2.here hx rfl (hb hby at_18) rfl rfl ?_
    show Steps p.tables e below (T2.setTop (mkF m 19 #[.val (.int p1), .val (.int (3 : Int32)), .val (.ref a_PASSWORD_MOD_NOT_ALLOWED), .val (.ref h0.size)] [(.ref h0.size)])) _
    refine st3.trans ?_
    show Steps p.tables e below (T3.setTop (mkF m 22 #[.val (.int p1), .val (.int (3 : Int32)), .val (.ref a_PASSWORD_MOD_NOT_ALLOWED), .val (.ref h0.size)] [(.int (0 : Int32))])) _
    refine XS.ifNo X3.here hx rfl (hb hby at_22) rfl (by decide) ?_
    show Steps p.tables e below (T3.setTop (mkF m 25 #[.val (.int p1), .val (.int (3 : Int32)), .val (.ref a_PASSWORD_MOD_NOT_ALLOWED), .val (.ref h0.size)] [])) _
    refine XS.aloadN X3.here hx rfl (hb hby at_25) rfl rfl ?_
    show Steps p.tables e below (T3.setTop (mkF m 26 #[.val (.int p1), .val (.int (3 : Int32)), .val (.ref a_PASSWORD_MOD_NOT_ALLOWED), .val (.ref h0.size)] [(.ref h0.size)])) _
    refine st4.trans ?_
    show Steps p.tables e below (T4.setTop (mkF m 29 #[.val (.int p1), .val (.int (3 : Int32)), .val (.ref a_PASSWORD_MOD_NOT_ALLOWED), .val (.ref h0.size)] [(.ref a_PASSWORD_MOD_NOT_ALLOWED)])) _
    refine XS.aloadN X4.here hx rfl (hb hby at_29) rfl rfl ?_
    show Steps p.tables e below (T4.setTop (mkF m 30 #[.val (.int p1), .val (.int (3 : Int32)), .val (.ref a_PASSWORD_MOD_NOT_ALLOWED), .val (.ref h0.size)] [(.ref a_PASSWORD_MOD_NOT_ALLOWED), (.ref a_PASSWORD_MOD_NOT_ALLOWED)])) _
    refine Jvm.RoadKit.acmp (g := (mkF m 30 #[.val (.int p1), .val (.int (3 : Int32)), .val (.ref a_PASSWORD_MOD_NOT_ALLOWED), .val (.ref h0.size)] [(.ref a_PASSWORD_MOD_NOT_ALLOWED), (.ref a_PASSWORD_MOD_NOT_ALLOWED)])) X4 hx rfl rfl rfl (pc0 := 30) (pc' := 33) (same := true) rfl (hb hby at_30) rfl (decide_eq_true rfl) (by decide) (by decide) ?_
    show Steps p.tables e below (T4.setTop (mkF m 33 #[.val (.int p1), .val (.int (3 : Int32)), .val (.ref a_PASSWORD_MOD_NOT_ALLOWED), .val (.ref h0.size)] [])) _
    refine XS.aloadN X4.here hx rfl (hb hby at_33) rfl rfl ?_
    show Steps p.tables e below (T4.setTop (mkF m 34 #[.val (.int p1), .val (.int (3 : Int32)), .val (.ref a_PASSWORD_MOD_NOT_ALLOWED), .val (.ref h0.size)] [(.ref h0.size)])) _
    refine st5.trans ?_
    show Steps p.tables e below (T5.setTop (mkF m 37 #[.val (.int p1), .val (.int (3 : Int32)), .val (.ref a_PASSWORD_MOD_NOT_ALLOWED), .val (.ref h0.size)] [.null])) _
    refine XS.ifnonnullNo X5.here hx rfl (hb hby at_37) rfl ?_
    show Steps p.tables e below (T5.setTop (mkF m 40 #[.val (.int p1), .val (.int (3 : Int32)), .val (.ref a_PASSWORD_MOD_NOT_ALLOWED), .val (.ref h0.size)] [])) _
    refine XS.aloadN X5.here hx rfl (hb hby at_40) rfl rfl ?_
    show Steps p.tables e below (T5.setTop (mkF m 41 #[.val (.int p1), .val (.int (3 : Int32)), .val (.ref a_PASSWORD_MOD_NOT_ALLOWED), .val (.ref h0.size)] [(.ref h0.size)])) _
    refine st6.trans ?_
    show Steps p.tables e below (T6.setTop (mkF m 44 #[.val (.int p1), .val (.int (3 : Int32)), .val (.ref a_PASSWORD_MOD_NOT_ALLOWED), .val (.ref h0.size)] [.null])) _
    refine XS.ifnonnullNo X6.here hx rfl (hb hby at_44) rfl ?_
    show Steps p.tables e below (T6.setTop (mkF m 47 #[.val (.int p1), .val (.int (3 : Int32)), .val (.ref a_PASSWORD_MOD_NOT_ALLOWED), .val (.ref h0.size)] [])) _
    refine XS.aloadN X6.here hx rfl (hb hby at_47) rfl rfl ?_
    show Steps p.tables e below (T6.setTop (mkF m 48 #[.val (.int p1), .val (.int (3 : Int32)), .val (.ref a_PASSWORD_MOD_NOT_ALLOWED), .val (.ref h0.size)] [(.ref h0.size)])) _
    refine st7.trans ?_
    show Steps p.tables e below (T7.setTop (mkF m 51 #[.val (.int p1), .val (.int (3 : Int32)), .val (.ref a_PASSWORD_MOD_NOT_ALLOWED), .val (.ref h0.size)] [.null])) _
    refine XS.ifnonnullNo X7.here hx rfl (hb hby at_51) rfl ?_
    show Steps p.tables e below (T7.setTop (mkF m 54 #[.val (.int p1), .val (.int (3 : Int32)), .val (.ref a_PASSWORD_MOD_NOT_ALLOWED), .val (.ref h0.size)] [])) _
    refine XS.iconst X7.here hx rfl (hb hby at_54) ?_
    show Steps p.tables e below (T7.setTop (mkF m 55 #[.val (.int p1), .val (.int (3 : Int32)), .val (.ref a_PASSWORD_MOD_NOT_ALLOWED), .val (.ref h0.size)] [(.int (1 : Int32))])) _
    refine XS.goto X7.here hx rfl (pc0 := 55) (pc' := 59) rfl (hb hby at_55) (by decide) (by decide) ?_
    show Steps p.tables e below (T7.setTop (mkF m 59 #[.val (.int p1), .val (.int (3 : Int32)), .val (.ref a_PASSWORD_MOD_NOT_ALLOWED), .val (.ref h0.size)] [(.int (1 : Int32))])) _
    exact retN X7 hx (t := .boolean) Bd.returns (by simp) (hb hby at_59) hr
  · show own_QL _ n0 _ T7.heap _
    exact ⟨rfl, N7⟩
set_option maxRecDepth 65536 in
set_option maxHeartbeats 40000000 in
theorem own_law_4 (l : Launch) (Z : State) (a0 : Array Value) (hw : ∀ d ∈ tables_1, d.before a0 Z = true) (ws : List Jvm.Cond) (a_PASSWORD_EXPIRED a_PASSWORD_MOD_NOT_ALLOWED a_ACCOUNT_LOCKED a_MUST_SUPPLY_OLD_PASSWORD a_PASSWORD_TOO_YOUNG a_CHANGE_AFTER_RESET a_PASSWORD_IN_HISTORY a_INSUFFICIENT_PASSWORD_QUALITY a_PASSWORD_TOO_SHORT : Addr) (p1 : Int32) (h0 : Heap) (n0 : Nat) (hp : own_Pin Z h0 a_PASSWORD_EXPIRED a_PASSWORD_MOD_NOT_ALLOWED a_ACCOUNT_LOCKED a_MUST_SUPPLY_OLD_PASSWORD a_PASSWORD_TOO_YOUNG a_CHANGE_AFTER_RESET a_PASSWORD_IN_HISTORY a_INSUFFICIENT_PASSWORD_QUALITY a_PASSWORD_TOO_SHORT) (Z0 : n0 ≤ h0.size) (hi : ((p1 &&& (2147483647 : Int32)) % (10 : Int32)) = (4 : Int32)) :
    MetFree l x (head1 (Jvm.Cond.code x code maxLocals ret :: ws) room_1) (fun a U => a = #[(.int p1)] ∧ Z.Warmed39 U.vm ∧ U.heap = h0) (fun _ _ _ _ _ => True) (fun _ U o U' => ∃ v L, o = .returned v ∧ own_QL (.int (1 : Int32)) n0 v U'.heap L ∧ FrameEnd U o U' L room_1.cells room_1.slots) := by
  have hp' := hp
  obtain ⟨S_PASSWORD_EXPIRED, S_PASSWORD_MOD_NOT_ALLOWED, S_ACCOUNT_LOCKED, S_MUST_SUPPLY_OLD_PASSWORD, S_PASSWORD_TOO_YOUNG, S_CHANGE_AFTER_RESET, S_PASSWORD_IN_HISTORY, S_INSUFFICIENT_PASSWORD_QUALITY, S_PASSWORD_TOO_SHORT, E_PASSWORD_EXPIRED, E_PASSWORD_MOD_NOT_ALLOWED, E_ACCOUNT_LOCKED, E_MUST_SUPPLY_OLD_PASSWORD, E_PASSWORD_TOO_YOUNG, E_CHANGE_AFTER_RESET, E_PASSWORD_IN_HISTORY, E_INSUFFICIENT_PASSWORD_QUALITY, E_PASSWORD_TOO_SHORT⟩ := hp'
  refine MetFree.of_bodySF (plainFor_of_name own_pn1) hisR ?_
  intro p e s m args below meth c s₁ Bd hml0 hP hK
  obtain ⟨rfl, hZ, hh⟩ := hP
  have hx := Bd.exec
  have hby := Bd.bytes
  have hml : c.maxLocals = 4 := hml0
  have hown : s.vm.findClass "com/example/passwarden/passwarden/core/ChangeDecisionRefusedPinLaw" = some m.cls := findClass_of_methodNamed Bd.named
  have X0 : Stand p l e room_1 s m #[(.int p1)] below meth c s₁ [] 0 0 := Stand.of_body Bd
  have e0 : s₁.heap = h0 := by rw [← hh, Bd.state]; rfl
  have N0 := Fr.nil n0
  have pre0 : ∀ t, Steps p.tables e below (s₁.setTop (mkF m 0 #[.val (.int p1), .unset, .unset, .unset] [])) t → Steps p.tables e below (s₁.setTop (entryFrame m #[(.int p1)] maxLocals)) t := fun t k => castTop (by first | (simp [entryFrame, mkF, argsToLocals, Value.category, maxLocals]; done) | rfl) k
  obtain ⟨_, _, ⟨T1, L1, k1, n1⟩, -, X1, ⟨Lc1, hQ1, l1, y1, z1⟩, st1⟩ := Jvm.LawKit.callS X0 hx (y := (⟨"com/example/passwarden/passwarden/core/ChangeDecisionRefusedPinLaw", "pick", "(I)Lcom/example/passwarden/passwarden/core/PolicyError;"⟩ : MethodName)) hown (mvT hZ (hw _ (List.mem_of_getElem? (i := 1) rfl))) (mvT hZ (hw _ (List.mem_of_getElem? (i := 2) rfl))) (mvT hZ (hw _ (List.mem_of_getElem? (i := 3) rfl))) (mvT hZ (hw _ (List.mem_of_getElem? (i := 4) rfl))) (by decide) (backOf (W := 0) (own_b1_4 l Z a0 hw [] a_PASSWORD_EXPIRED a_PASSWORD_MOD_NOT_ALLOWED a_ACCOUNT_LOCKED a_MUST_SUPPLY_OLD_PASSWORD a_PASSWORD_TOO_YOUNG a_CHANGE_AFTER_RESET a_PASSWORD_IN_HISTORY a_INSUFFICIENT_PASSWORD_QUALITY a_PASSWORD_TOO_SHORT  h0 n0 hp) hZ (hw _ (List.mem_of_getElem? (i := 4) rfl)) (hw _ (List.mem_of_getElem? (i := 3) rfl)) (by decide) (by decide)) (g := (mkF m 9 #[.val (.int p1), .val (.int (4 : Int32)), .unset, .unset] [(.int (4 : Int32))])) rfl (by rw [hml]; rfl) (argsL := [(.int (4 : Int32))]) (rest := []) (lenOf own_pd0 rfl) rfl (by show 2 * 0 + _ ≤ _; exact Nat.le_of_eq rfl) (hb hby at_9) (fun _ _ => ⟨rfl, e0, (by decide : 0 + 0 ≤ _), (by decide : 0 + 0 ≤ _)⟩)
  dsimp only [Pt.U, Pt.locs, Pt.cells, Pt.slots] at X1 l1 y1 z1 st1 hQ1
  subst l1 y1 z1
  obtain ⟨rfl, N1q, e1⟩ := hQ1
  have N1 := Fr.app N0 N1q
  obtain ⟨_, _, ⟨T2, L2, k2, n2⟩, -, X2, ⟨Lc2, hQ2, l2, y2, z2⟩, st2⟩ := Jvm.LawKit.callS X1 hx (y := (⟨"com/example/passwarden/passwarden/core/ChangeDecision", "refused", "(Lcom/example/passwarden/passwarden/core/PolicyError;)Lcom/example/passwarden/passwarden/core/ChangeDecision;"⟩ : MethodName)) hown (mvT hZ (hw _ (List.mem_of_getElem? (i := 8) rfl))) (mvT hZ (hw _ (List.mem_of_getElem? (i := 9) rfl))) (mvT hZ (hw _ (List.mem_of_getElem? (i := 10) rfl))) (mvT hZ (hw _ (List.mem_of_getElem? (i := 11) rfl))) (by decide) (backOf (W := 0) (own_refR l Z a0 hw [] a_MUST_SUPPLY_OLD_PASSWORD h0 n0 Z0) hZ (hw _ (List.mem_of_getElem? (i := 11) rfl)) (hw _ (List.mem_of_getElem? (i := 10) rfl)) (by decide) (by decide)) (g := (mkF m 14 #[.val (.int p1), .val (.int (4 : Int32)), .val (.ref a_MUST_SUPPLY_OLD_PASSWORD), .unset] [(.ref a_MUST_SUPPLY_OLD_PASSWORD)])) rfl (by rw [hml]; rfl) (argsL := [(.ref a_MUST_SUPPLY_OLD_PASSWORD)]) (rest := []) (lenOf own_pd1 rfl) rfl (by show 2 * 0 + _ ≤ _; exact Nat.le_of_eq rfl) (hb hby at_14) (fun _ _ => ⟨rfl, e1, (by decide : 0 + 1 ≤ _), (by decide : 0 + 5 ≤ _)⟩)
  dsimp only [Pt.U, Pt.locs, Pt.cells, Pt.slots] at X2 l2 y2 z2 st2 hQ2
  subst l2 y2 z2
  obtain ⟨rfl, N2q, E_obj, F_acc, F_err, F_pwd, F_sta, F_his⟩ := hQ2
  have e2 : T2.heap = T2.heap := rfl
  have N2 := Fr.app N1 N2q
  obtain ⟨cq3, kq3, q3a, q3b, q3c⟩ := isOf hZ e2 E_obj
  obtain ⟨_, _, ⟨T3, L3, k3, n3⟩, -, X3, ⟨Lc3, hQ3, l3, y3, z3⟩, st3⟩ := X2.virtualBack hx (y := (⟨"com/example/passwarden/passwarden/core/ChangeDecision", "isAccepted", "()Z"⟩ : MethodName)) (z := (⟨"com/example/passwarden/passwarden/core/ChangeDecision", "isAccepted", "()Z"⟩ : MethodName)) hown (mvT hZ (hw _ (List.mem_of_getElem? (i := 30) rfl))) (mvT hZ (hw _ (List.mem_of_getElem? (i := 31) rfl))) (notFace_of_selects (args := #[]) (mvT hZ (hw _ (List.mem_of_getElem? (i := 33) rfl)))) (mvT hZ (hw _ (List.mem_of_getElem? (i := 33) rfl))) (mvT hZ (hw _ (List.mem_of_getElem? (i := 32) rfl))) (by decide) (backOf (W := 0) (own_isAccepted l Z a0 hw [] h0.size _ n0 F_acc) hZ (hw _ (List.mem_of_getElem? (i := 34) rfl)) (hw _ (List.mem_of_getElem? (i := 10) rfl)) (by decide) (by decide)) q3a q3c (g := (mkF m 19 #[.val (.int p1), .val (.int (4 : Int32)), .val (.ref a_MUST_SUPPLY_OLD_PASSWORD), .val (.ref h0.size)] [(.ref h0.size)])) rfl (by rw [hml]; rfl) (Steps.refl _) (argsL := []) (rest := []) (lenOf own_pd2 rfl) rfl (by show 2 * 0 + _ ≤ _; exact Nat.le_of_eq rfl) (hb hby at_19) (fun _ _ => ⟨rfl, e2, (by decide : 1 + 0 ≤ _), (by decide : 5 + 0 ≤ _)⟩)
  dsimp only [Pt.U, Pt.locs, Pt.cells, Pt.slots] at X3 l3 y3 z3 st3 hQ3
  subst l3 y3 z3
  obtain ⟨rfl, N3q, e3⟩ := hQ3
  have N3 := Fr.app N2 N3q
  obtain ⟨cq4, kq4, q4a, q4b, q4c⟩ := isOf hZ e3 E_obj
  obtain ⟨_, _, ⟨T4, L4, k4, n4⟩, -, X4, ⟨Lc4, hQ4, l4, y4, z4⟩, st4⟩ := X3.virtualBack hx (y := (⟨"com/example/passwarden/passwarden/core/ChangeDecision", "getError", "()Lcom/example/passwarden/passwarden/core/PolicyError;"⟩ : MethodName)) (z := (⟨"com/example/passwarden/passwarden/core/ChangeDecision", "getError", "()Lcom/example/passwarden/passwarden/core/PolicyError;"⟩ : MethodName)) hown (mvT hZ (hw _ (List.mem_of_getElem? (i := 35) rfl))) (mvT hZ (hw _ (List.mem_of_getElem? (i := 36) rfl))) (notFace_of_selects (args := #[]) (mvT hZ (hw _ (List.mem_of_getElem? (i := 38) rfl)))) (mvT hZ (hw _ (List.mem_of_getElem? (i := 38) rfl))) (mvT hZ (hw _ (List.mem_of_getElem? (i := 37) rfl))) (by decide) (backOf (W := 0) (own_getErrorR l Z a0 hw [] h0.size a_MUST_SUPPLY_OLD_PASSWORD _ n0 F_err) hZ (hw _ (List.mem_of_getElem? (i := 39) rfl)) (hw _ (List.mem_of_getElem? (i := 10) rfl)) (by decide) (by decide)) q4a q4c (g := (mkF m 26 #[.val (.int p1), .val (.int (4 : Int32)), .val (.ref a_MUST_SUPPLY_OLD_PASSWORD), .val (.ref h0.size)] [(.ref h0.size)])) rfl (by rw [hml]; rfl) (Steps.refl _) (argsL := []) (rest := []) (lenOf own_pd3 rfl) rfl (by show 2 * 0 + _ ≤ _; exact Nat.le_of_eq rfl) (hb hby at_26) (fun _ _ => ⟨rfl, e3, (by decide : 1 + 0 ≤ _), (by decide : 5 + 0 ≤ _)⟩)
  dsimp only [Pt.U, Pt.locs, Pt.cells, Pt.slots] at X4 l4 y4 z4 st4 hQ4
  subst l4 y4 z4
  obtain ⟨rfl, N4q, e4⟩ := hQ4
  have N4 := Fr.app N3 N4q
  obtain ⟨cq5, kq5, q5a, q5b, q5c⟩ := isOf hZ e4 E_obj
  obtain ⟨_, _, ⟨T5, L5, k5, n5⟩, -, X5, ⟨Lc5, hQ5, l5, y5, z5⟩, st5⟩ := X4.virtualBack hx (y := (⟨"com/example/passwarden/passwarden/core/ChangeDecision", "getStoredPassword", "()[B"⟩ : MethodName)) (z := (⟨"com/example/passwarden/passwarden/core/ChangeDecision", "getStoredPassword", "()[B"⟩ : MethodName)) hown (mvT hZ (hw _ (List.mem_of_getElem? (i := 40) rfl))) (mvT hZ (hw _ (List.mem_of_getElem? (i := 41) rfl))) (notFace_of_selects (args := #[]) (mvT hZ (hw _ (List.mem_of_getElem? (i := 43) rfl)))) (mvT hZ (hw _ (List.mem_of_getElem? (i := 43) rfl))) (mvT hZ (hw _ (List.mem_of_getElem? (i := 42) rfl))) (by decide) (backOf (W := 0) (own_getStoredPassword l Z a0 hw [] h0.size _ n0 F_pwd) hZ (hw _ (List.mem_of_getElem? (i := 44) rfl)) (hw _ (List.mem_of_getElem? (i := 10) rfl)) (by decide) (by decide)) q5a q5c (g := (mkF m 34 #[.val (.int p1), .val (.int (4 : Int32)), .val (.ref a_MUST_SUPPLY_OLD_PASSWORD), .val (.ref h0.size)] [(.ref h0.size)])) rfl (by rw [hml]; rfl) (Steps.refl _) (argsL := []) (rest := []) (lenOf own_pd4 rfl) rfl (by show 2 * 0 + _ ≤ _; exact Nat.le_of_eq rfl) (hb hby at_34) (fun _ _ => ⟨rfl, e4, (by decide : 1 + 0 ≤ _), (by decide : 5 + 0 ≤ _)⟩)
  dsimp only [Pt.U, Pt.locs, Pt.cells, Pt.slots] at X5 l5 y5 z5 st5 hQ5
  subst l5 y5 z5
  obtain ⟨rfl, N5q, e5⟩ := hQ5
  have N5 := Fr.app N4 N5q
  obtain ⟨cq6, kq6, q6a, q6b, q6c⟩ := isOf hZ e5 E_obj
  obtain ⟨_, _, ⟨T6, L6, k6, n6⟩, -, X6, ⟨Lc6, hQ6, l6, y6, z6⟩, st6⟩ := X5.virtualBack hx (y := (⟨"com/example/passwarden/passwarden/core/ChangeDecision", "getState", "()Lcom/example/passwarden/passwarden/core/AccountState;"⟩ : MethodName)) (z := (⟨"com/example/passwarden/passwarden/core/ChangeDecision", "getState", "()Lcom/example/passwarden/passwarden/core/AccountState;"⟩ : MethodName)) hown (mvT hZ (hw _ (List.mem_of_getElem? (i := 45) rfl))) (mvT hZ (hw _ (List.mem_of_getElem? (i := 46) rfl))) (notFace_of_selects (args := #[]) (mvT hZ (hw _ (List.mem_of_getElem? (i := 48) rfl)))) (mvT hZ (hw _ (List.mem_of_getElem? (i := 48) rfl))) (mvT hZ (hw _ (List.mem_of_getElem? (i := 47) rfl))) (by decide) (backOf (W := 0) (own_getState l Z a0 hw [] h0.size _ n0 F_sta) hZ (hw _ (List.mem_of_getElem? (i := 49) rfl)) (hw _ (List.mem_of_getElem? (i := 10) rfl)) (by decide) (by decide)) q6a q6c (g := (mkF m 41 #[.val (.int p1), .val (.int (4 : Int32)), .val (.ref a_MUST_SUPPLY_OLD_PASSWORD), .val (.ref h0.size)] [(.ref h0.size)])) rfl (by rw [hml]; rfl) (Steps.refl _) (argsL := []) (rest := []) (lenOf own_pd5 rfl) rfl (by show 2 * 0 + _ ≤ _; exact Nat.le_of_eq rfl) (hb hby at_41) (fun _ _ => ⟨rfl, e5, (by decide : 1 + 0 ≤ _), (by decide : 5 + 0 ≤ _)⟩)
  dsimp only [Pt.U, Pt.locs, Pt.cells, Pt.slots] at X6 l6 y6 z6 st6 hQ6
  subst l6 y6 z6
  obtain ⟨rfl, N6q, e6⟩ := hQ6
  have N6 := Fr.app N5 N6q
  obtain ⟨cq7, kq7, q7a, q7b, q7c⟩ := isOf hZ e6 E_obj
  obtain ⟨_, _, ⟨T7, L7, k7, n7⟩, -, X7, ⟨Lc7, hQ7, l7, y7, z7⟩, st7⟩ := X6.virtualBack hx (y := (⟨"com/example/passwarden/passwarden/core/ChangeDecision", "getHistory", "()Lcom/example/passwarden/passwarden/core/PasswordHistory;"⟩ : MethodName)) (z := (⟨"com/example/passwarden/passwarden/core/ChangeDecision", "getHistory", "()Lcom/example/passwarden/passwarden/core/PasswordHistory;"⟩ : MethodName)) hown (mvT hZ (hw _ (List.mem_of_getElem? (i := 50) rfl))) (mvT hZ (hw _ (List.mem_of_getElem? (i := 51) rfl))) (notFace_of_selects (args := #[]) (mvT hZ (hw _ (List.mem_of_getElem? (i := 53) rfl)))) (mvT hZ (hw _ (List.mem_of_getElem? (i := 53) rfl))) (mvT hZ (hw _ (List.mem_of_getElem? (i := 52) rfl))) (by decide) (backOf (W := 0) (own_getHistory l Z a0 hw [] h0.size _ n0 F_his) hZ (hw _ (List.mem_of_getElem? (i := 54) rfl)) (hw _ (List.mem_of_getElem? (i := 10) rfl)) (by decide) (by decide)) q7a q7c (g := (mkF m 48 #[.val (.int p1), .val (.int (4 : Int32)), .val (.ref a_MUST_SUPPLY_OLD_PASSWORD), .val (.ref h0.size)] [(.ref h0.size)])) rfl (by rw [hml]; rfl) (Steps.refl _) (argsL := []) (rest := []) (lenOf own_pd6 rfl) rfl (by show 2 * 0 + _ ≤ _; exact Nat.le_of_eq rfl) (hb hby at_48) (fun _ _ => ⟨rfl, e6, (by decide : 1 + 0 ≤ _), (by decide : 5 + 0 ≤ _)⟩)
  dsimp only [Pt.U, Pt.locs, Pt.cells, Pt.slots] at X7 l7 y7 z7 st7 hQ7
  subst l7 y7 z7
  obtain ⟨rfl, N7q, e7⟩ := hQ7
  have N7 := Fr.app N6 N7q
  obtain ⟨fs, hr, hrun, hended, hW, hsame⟩ := X7.leave (v := some (.int (1 : Int32))) (fun h => by rw [Bd.returns] at h; cases h)
  refine ⟨_, _, pre0 _ ?_, hrun, hended, _, _, rfl, ?_, ⟨_, rfl⟩, hW, hsame.mono (by decide) (by decide)⟩
  · show Steps p.tables e below (s₁.setTop (mkF m 0 #[.val (.int p1), .unset, .unset, .unset] [])) _
    refine XS.iloadN X0.here hx rfl (hb hby at_0) rfl ?_
    show Steps p.tables e below (s₁.setTop (mkF m 1 #[.val (.int p1), .unset, .unset, .unset] [(.int p1)])) _
    refine X0.ldcInt hx hown (mvT hZ (hw _ (List.mem_of_getElem? (i := 0) rfl))) (g := (mkF m 1 #[.val (.int p1), .unset, .unset, .unset] [(.int p1)])) rfl (hb hby at_1) _ ?_
    show Steps p.tables e below (s₁.setTop (mkF m 3 #[.val (.int p1), .unset, .unset, .unset] [(.int (2147483647 : Int32)), (.int p1)])) _
    refine XS.iand X0.here hx rfl (hb hby at_3) rfl ?_
    show Steps p.tables e below (s₁.setTop (mkF m 4 #[.val (.int p1), .unset, .unset, .unset] [(.int (p1 &&& (2147483647 : Int32)))])) _
    refine XS.bipush X0.here hx rfl (hb hby at_4) ?_
    show Steps p.tables e below (s₁.setTop (mkF m 6 #[.val (.int p1), .unset, .unset, .unset] [(.int (10 : Int32)), (.int (p1 &&& (2147483647 : Int32)))])) _
    refine iremM (g := (mkF m 6 #[.val (.int p1), .unset, .unset, .unset] [(.int (10 : Int32)), (.int (p1 &&& (2147483647 : Int32)))])) X0 hx rfl (hb hby at_6) rfl (by decide) ?_
    show Steps p.tables e below (s₁.setTop (mkF m 7 #[.val (.int p1), .unset, .unset, .unset] [(.int ((p1 &&& (2147483647 : Int32)) % (10 : Int32)))])) _
    rewrite [hi]
    show Steps p.tables e below (s₁.setTop (mkF m 7 #[.val (.int p1), .unset, .unset, .unset] [(.int (4 : Int32))])) _
    refine XS.istoreN X0.here hx rfl (hb hby at_7) rfl (l' := #[.val (.int p1), .val (.int (4 : Int32)), .unset, .unset]) rfl ?_
    show Steps p.tables e below (s₁.setTop (mkF m 8 #[.val (.int p1), .val (.int (4 : Int32)), .unset, .unset] [])) _
    refine XS.iloadN X0.here hx rfl (hb hby at_8) rfl ?_
    show Steps p.tables e below (s₁.setTop (mkF m 9 #[.val (.int p1), .val (.int (4 : Int32)), .unset, .unset] [(.int (4 : Int32))])) _
    refine st1 _ ?_
    show Steps p.tables e below (T1.setTop (mkF m 12 #[.val (.int p1), .val (.int (4 : Int32)), .unset, .unset] [(.ref a_MUST_SUPPLY_OLD_PASSWORD)])) _
    refine XS.astoreN X1.here hx rfl (hb hby at_12) rfl rfl (l' := #[.val (.int p1), .val (.int (4 : Int32)), .val (.ref a_MUST_SUPPLY_OLD_PASSWORD), .unset]) rfl ?_
    show Steps p.tables e below (T1.setTop (mkF m 13 #[.val (.int p1), .val (.int (4 : Int32)), .val (.ref a_MUST_SUPPLY_OLD_PASSWORD), .unset] [])) _
    refine XS.aloadN X1.here hx rfl (hb hby at_13) rfl rfl ?_
    show Steps p.tables e below (T1.setTop (mkF m 14 #[.val (.int p1), .val (.int (4 : Int32)), .val (.ref a_MUST_SUPPLY_OLD_PASSWORD), .unset] [(.ref a_MUST_SUPPLY_OLD_PASSWORD)])) _
    refine st2 _ ?_
    show Steps p.tables e below (T2.setTop (mkF m 17 #[.val (.int p1), .val (.int (4 : Int32)), .val (.ref a_MUST_SUPPLY_OLD_PASSWORD), .unset] [(.ref h0.size)])) _
    refine XS.astoreN X2.here hx rfl (hb hby at_17) rfl rfl (l' := #[.val (.int p1), .val (.int (4 : Int32)), .val (.ref a_MUST_SUPPLY_OLD_PASSWORD), .val (.ref h0.size)]) rfl ?_
    show Steps p.tables e below (T2.setTop (mkF m 18 #[.val (.int p1), .val (.int (4 : Int32)), .val (.ref a_MUST_SUPPLY_OLD_PASSWORD), .val (.ref h0.size)] [])) _
    refine XS.aloadN X2.here hx rfl (hb hby at_18) rfl rfl ?_
    show Steps p.tables e below (T2.setTop (mkF m 19 #[.val (.int p1), .val (.int (4 : Int32)), .val (.ref a_MUST_SUPPLY_OLD_PASSWORD), .val (.ref h0.size)] [(.ref h0.size)])) _
    refine st3.trans ?_
    show Steps p.tables e below (T3.setTop (mkF m 22 #[.val (.int p1), .val (.int (4 : Int32)), .val (.ref a_MUST_SUPPLY_OLD_PASSWORD), .val (.ref h0.size)] [(.int (0 : Int32))])) _
    refine XS.ifNo X3.here hx rfl (hb hby at_22) rfl (by decide) ?_
    show Steps p.tables e below (T3.setTop (mkF m 25 #[.val (.int p1), .val (.int (4 : Int32)), .val (.ref a_MUST_SUPPLY_OLD_PASSWORD), .val (.ref h0.size)] [])) _
    refine XS.aloadN X3.here hx rfl (hb hby at_25) rfl rfl ?_
    show Steps p.tables e below (T3.setTop (mkF m 26 #[.val (.int p1), .val (.int (4 : Int32)), .val (.ref a_MUST_SUPPLY_OLD_PASSWORD), .val (.ref h0.size)] [(.ref h0.size)])) _
    refine st4.trans ?_
    show Steps p.tables e below (T4.setTop (mkF m 29 #[.val (.int p1), .val (.int (4 : Int32)), .val (.ref a_MUST_SUPPLY_OLD_PASSWORD), .val (.ref h0.size)] [(.ref a_MUST_SUPPLY_OLD_PASSWORD)])) _
    refine XS.aloadN X4.here hx rfl (hb hby at_29) rfl rfl ?_
    show Steps p.tables e below (T4.setTop (mkF m 30 #[.val (.int p1), .val (.int (4 : Int32)), .val (.ref a_MUST_SUPPLY_OLD_PASSWORD), .val (.ref h0.size)] [(.ref a_MUST_SUPPLY_OLD_PASSWORD), (.ref a_MUST_SUPPLY_OLD_PASSWORD)])) _
    refine Jvm.RoadKit.acmp (g := (mkF m 30 #[.val (.int p1), .val (.int (4 : Int32)), .val (.ref a_MUST_SUPPLY_OLD_PASSWORD), .val (.ref h0.size)] [(.ref a_MUST_SUPPLY_OLD_PASSWORD), (.ref a_MUST_SUPPLY_OLD_PASSWORD)])) X4 hx rfl rfl rfl (pc0 := 30) (pc' := 33) (same := true) rfl (hb hby at_30) rfl (decide_eq_true rfl) (by decide) (by decide) ?_
    show Steps p.tables e below (T4.setTop (mkF m 33 #[.val (.int p1), .val (.int (4 : Int32)), .val (.ref a_MUST_SUPPLY_OLD_PASSWORD), .val (.ref h0.size)] [])) _
    refine XS.aloadN X4.here hx rfl (hb hby at_33) rfl rfl ?_
    show Steps p.tables e below (T4.setTop (mkF m 34 #[.val (.int p1), .val (.int (4 : Int32)), .val (.ref a_MUST_SUPPLY_OLD_PASSWORD), .val (.ref h0.size)] [(.ref h0.size)])) _
    refine st5.trans ?_
    show Steps p.tables e below (T5.setTop (mkF m 37 #[.val (.int p1), .val (.int (4 : Int32)), .val (.ref a_MUST_SUPPLY_OLD_PASSWORD), .val (.ref h0.size)] [.null])) _
    refine XS.ifnonnullNo X5.here hx rfl (hb hby at_37) rfl ?_
    show Steps p.tables e below (T5.setTop (mkF m 40 #[.val (.int p1), .val (.int (4 : Int32)), .val (.ref a_MUST_SUPPLY_OLD_PASSWORD), .val (.ref h0.size)] [])) _
    refine XS.aloadN X5.here hx rfl (hb hby at_40) rfl rfl ?_
    show Steps p.tables e below (T5.setTop (mkF m 41 #[.val (.int p1), .val (.int (4 : Int32)), .val (.ref a_MUST_SUPPLY_OLD_PASSWORD), .val (.ref h0.size)] [(.ref h0.size)])) _
    refine st6.trans ?_
    show Steps p.tables e below (T6.setTop (mkF m 44 #[.val (.int p1), .val (.int (4 : Int32)), .val (.ref a_MUST_SUPPLY_OLD_PASSWORD), .val (.ref h0.size)] [.null])) _
    refine XS.ifnonnullNo X6.here hx rfl (hb hby at_44) rfl ?_
    show Steps p.tables e below (T6.setTop (mkF m 47 #[.val (.int p1), .val (.int (4 : Int32)), .val (.ref a_MUST_SUPPLY_OLD_PASSWORD), .val (.ref h0.size)] [])) _
    refine XS.aloadN X6.here hx rfl (hb hby at_47) rfl rfl ?_
    show Steps p.tables e below (T6.setTop (mkF m 48 #[.val (.int p1), .val (.int (4 : Int32)), .val (.ref a_MUST_SUPPLY_OLD_PASSWORD), .val (.ref h0.size)] [(.ref h0.size)])) _
    refine st7.trans ?_
    show Steps p.tables e below (T7.setTop (mkF m 51 #[.val (.int p1), .val (.int (4 : Int32)), .val (.ref a_MUST_SUPPLY_OLD_PASSWORD), .val (.ref h0.size)] [.null])) _
    refine XS.ifnonnullNo X7.here hx rfl (hb hby at_51) rfl ?_
    show Steps p.tables e below (T7.setTop (mkF m 54 #[.val (.int p1), .val (.int (4 : Int32)), .val (.ref a_MUST_SUPPLY_OLD_PASSWORD), .val (.ref h0.size)] [])) _
    refine XS.iconst X7.here hx rfl (hb hby at_54) ?_
    show Steps p.tables e below (T7.setTop (mkF m 55 #[.val (.int p1), .val (.int (4 : Int32)), .val (.ref a_MUST_SUPPLY_OLD_PASSWORD), .val (.ref h0.size)] [(.int (1 : Int32))])) _
    refine XS.goto X7.here hx rfl (pc0 := 55) (pc' := 59) rfl (hb hby at_55) (by decide) (by decide) ?_
    show Steps p.tables e below (T7.setTop (mkF m 59 #[.val (.int p1), .val (.int (4 : Int32)), .val (.ref a_MUST_SUPPLY_OLD_PASSWORD), .val (.ref h0.size)] [(.int (1 : Int32))])) _
    exact retN X7 hx (t := .boolean) Bd.returns (by simp) (hb hby at_59) hr
  · show own_QL _ n0 _ T7.heap _
    exact ⟨rfl, N7⟩
set_option maxRecDepth 65536 in
set_option maxHeartbeats 40000000 in
theorem own_law_5 (l : Launch) (Z : State) (a0 : Array Value) (hw : ∀ d ∈ tables_1, d.before a0 Z = true) (ws : List Jvm.Cond) (a_PASSWORD_EXPIRED a_PASSWORD_MOD_NOT_ALLOWED a_ACCOUNT_LOCKED a_MUST_SUPPLY_OLD_PASSWORD a_PASSWORD_TOO_YOUNG a_CHANGE_AFTER_RESET a_PASSWORD_IN_HISTORY a_INSUFFICIENT_PASSWORD_QUALITY a_PASSWORD_TOO_SHORT : Addr) (p1 : Int32) (h0 : Heap) (n0 : Nat) (hp : own_Pin Z h0 a_PASSWORD_EXPIRED a_PASSWORD_MOD_NOT_ALLOWED a_ACCOUNT_LOCKED a_MUST_SUPPLY_OLD_PASSWORD a_PASSWORD_TOO_YOUNG a_CHANGE_AFTER_RESET a_PASSWORD_IN_HISTORY a_INSUFFICIENT_PASSWORD_QUALITY a_PASSWORD_TOO_SHORT) (Z0 : n0 ≤ h0.size) (hi : ((p1 &&& (2147483647 : Int32)) % (10 : Int32)) = (5 : Int32)) :
    MetFree l x (head1 (Jvm.Cond.code x code maxLocals ret :: ws) room_1) (fun a U => a = #[(.int p1)] ∧ Z.Warmed39 U.vm ∧ U.heap = h0) (fun _ _ _ _ _ => True) (fun _ U o U' => ∃ v L, o = .returned v ∧ own_QL (.int (1 : Int32)) n0 v U'.heap L ∧ FrameEnd U o U' L room_1.cells room_1.slots) := by
  have hp' := hp
  obtain ⟨S_PASSWORD_EXPIRED, S_PASSWORD_MOD_NOT_ALLOWED, S_ACCOUNT_LOCKED, S_MUST_SUPPLY_OLD_PASSWORD, S_PASSWORD_TOO_YOUNG, S_CHANGE_AFTER_RESET, S_PASSWORD_IN_HISTORY, S_INSUFFICIENT_PASSWORD_QUALITY, S_PASSWORD_TOO_SHORT, E_PASSWORD_EXPIRED, E_PASSWORD_MOD_NOT_ALLOWED, E_ACCOUNT_LOCKED, E_MUST_SUPPLY_OLD_PASSWORD, E_PASSWORD_TOO_YOUNG, E_CHANGE_AFTER_RESET, E_PASSWORD_IN_HISTORY, E_INSUFFICIENT_PASSWORD_QUALITY, E_PASSWORD_TOO_SHORT⟩ := hp'
  refine MetFree.of_bodySF (plainFor_of_name own_pn1) hisR ?_
  intro p e s m args below meth c s₁ Bd hml0 hP hK
  obtain ⟨rfl, hZ, hh⟩ := hP
  have hx := Bd.exec
  have hby := Bd.bytes
  have hml : c.maxLocals = 4 := hml0
  have hown : s.vm.findClass "com/example/passwarden/passwarden/core/ChangeDecisionRefusedPinLaw" = some m.cls := findClass_of_methodNamed Bd.named
  have X0 : Stand p l e room_1 s m #[(.int p1)] below meth c s₁ [] 0 0 := Stand.of_body Bd
  have e0 : s₁.heap = h0 := by rw [← hh, Bd.state]; rfl
  have N0 := Fr.nil n0
  have pre0 : ∀ t, Steps p.tables e below (s₁.setTop (mkF m 0 #[.val (.int p1), .unset, .unset, .unset] [])) t → Steps p.tables e below (s₁.setTop (entryFrame m #[(.int p1)] maxLocals)) t := fun t k => castTop (by first | (simp [entryFrame, mkF, argsToLocals, Value.category, maxLocals]; done) | rfl) k
  obtain ⟨_, _, ⟨T1, L1, k1, n1⟩, -, X1, ⟨Lc1, hQ1, l1, y1, z1⟩, st1⟩ := Jvm.LawKit.callS X0 hx (y := (⟨"com/example/passwarden/passwarden/core/ChangeDecisionRefusedPinLaw", "pick", "(I)Lcom/example/passwarden/passwarden/core/PolicyError;"⟩ : MethodName)) hown (mvT hZ (hw _ (List.mem_of_getElem? (i := 1) rfl))) (mvT hZ (hw _ (List.mem_of_getElem? (i := 2) rfl))) (mvT hZ (hw _ (List.mem_of_getElem? (i := 3) rfl))) (mvT hZ (hw _ (List.mem_of_getElem? (i := 4) rfl))) (by decide) (backOf (W := 0) (own_b1_5 l Z a0 hw [] a_PASSWORD_EXPIRED a_PASSWORD_MOD_NOT_ALLOWED a_ACCOUNT_LOCKED a_MUST_SUPPLY_OLD_PASSWORD a_PASSWORD_TOO_YOUNG a_CHANGE_AFTER_RESET a_PASSWORD_IN_HISTORY a_INSUFFICIENT_PASSWORD_QUALITY a_PASSWORD_TOO_SHORT  h0 n0 hp) hZ (hw _ (List.mem_of_getElem? (i := 4) rfl)) (hw _ (List.mem_of_getElem? (i := 3) rfl)) (by decide) (by decide)) (g := (mkF m 9 #[.val (.int p1), .val (.int (5 : Int32)), .unset, .unset] [(.int (5 : Int32))])) rfl (by rw [hml]; rfl) (argsL := [(.int (5 : Int32))]) (rest := []) (lenOf own_pd0 rfl) rfl (by show 2 * 0 + _ ≤ _; exact Nat.le_of_eq rfl) (hb hby at_9) (fun _ _ => ⟨rfl, e0, (by decide : 0 + 0 ≤ _), (by decide : 0 + 0 ≤ _)⟩)
  dsimp only [Pt.U, Pt.locs, Pt.cells, Pt.slots] at X1 l1 y1 z1 st1 hQ1
  subst l1 y1 z1
  obtain ⟨rfl, N1q, e1⟩ := hQ1
  have N1 := Fr.app N0 N1q
  obtain ⟨_, _, ⟨T2, L2, k2, n2⟩, -, X2, ⟨Lc2, hQ2, l2, y2, z2⟩, st2⟩ := Jvm.LawKit.callS X1 hx (y := (⟨"com/example/passwarden/passwarden/core/ChangeDecision", "refused", "(Lcom/example/passwarden/passwarden/core/PolicyError;)Lcom/example/passwarden/passwarden/core/ChangeDecision;"⟩ : MethodName)) hown (mvT hZ (hw _ (List.mem_of_getElem? (i := 8) rfl))) (mvT hZ (hw _ (List.mem_of_getElem? (i := 9) rfl))) (mvT hZ (hw _ (List.mem_of_getElem? (i := 10) rfl))) (mvT hZ (hw _ (List.mem_of_getElem? (i := 11) rfl))) (by decide) (backOf (W := 0) (own_refR l Z a0 hw [] a_INSUFFICIENT_PASSWORD_QUALITY h0 n0 Z0) hZ (hw _ (List.mem_of_getElem? (i := 11) rfl)) (hw _ (List.mem_of_getElem? (i := 10) rfl)) (by decide) (by decide)) (g := (mkF m 14 #[.val (.int p1), .val (.int (5 : Int32)), .val (.ref a_INSUFFICIENT_PASSWORD_QUALITY), .unset] [(.ref a_INSUFFICIENT_PASSWORD_QUALITY)])) rfl (by rw [hml]; rfl) (argsL := [(.ref a_INSUFFICIENT_PASSWORD_QUALITY)]) (rest := []) (lenOf own_pd1 rfl) rfl (by show 2 * 0 + _ ≤ _; exact Nat.le_of_eq rfl) (hb hby at_14) (fun _ _ => ⟨rfl, e1, (by decide : 0 + 1 ≤ _), (by decide : 0 + 5 ≤ _)⟩)
  dsimp only [Pt.U, Pt.locs, Pt.cells, Pt.slots] at X2 l2 y2 z2 st2 hQ2
  subst l2 y2 z2
  obtain ⟨rfl, N2q, E_obj, F_acc, F_err, F_pwd, F_sta, F_his⟩ := hQ2
  have e2 : T2.heap = T2.heap := rfl
  have N2 := Fr.app N1 N2q
  obtain ⟨cq3, kq3, q3a, q3b, q3c⟩ := isOf hZ e2 E_obj
  obtain ⟨_, _, ⟨T3, L3, k3, n3⟩, -, X3, ⟨Lc3, hQ3, l3, y3, z3⟩, st3⟩ := X2.virtualBack hx (y := (⟨"com/example/passwarden/passwarden/core/ChangeDecision", "isAccepted", "()Z"⟩ : MethodName)) (z := (⟨"com/example/passwarden/passwarden/core/ChangeDecision", "isAccepted", "()Z"⟩ : MethodName)) hown (mvT hZ (hw _ (List.mem_of_getElem? (i := 30) rfl))) (mvT hZ (hw _ (List.mem_of_getElem? (i := 31) rfl))) (notFace_of_selects (args := #[]) (mvT hZ (hw _ (List.mem_of_getElem? (i := 33) rfl)))) (mvT hZ (hw _ (List.mem_of_getElem? (i := 33) rfl))) (mvT hZ (hw _ (List.mem_of_getElem? (i := 32) rfl))) (by decide) (backOf (W := 0) (own_isAccepted l Z a0 hw [] h0.size _ n0 F_acc) hZ (hw _ (List.mem_of_getElem? (i := 34) rfl)) (hw _ (List.mem_of_getElem? (i := 10) rfl)) (by decide) (by decide)) q3a q3c (g := (mkF m 19 #[.val (.int p1), .val (.int (5 : Int32)), .val (.ref a_INSUFFICIENT_PASSWORD_QUALITY), .val (.ref h0.size)] [(.ref h0.size)])) rfl (by rw [hml]; rfl) (Steps.refl _) (argsL := []) (rest := []) (lenOf own_pd2 rfl) rfl (by show 2 * 0 + _ ≤ _; exact Nat.le_of_eq rfl) (hb hby at_19) (fun _ _ => ⟨rfl, e2, (by decide : 1 + 0 ≤ _), (by decide : 5 + 0 ≤ _)⟩)
  dsimp only [Pt.U, Pt.locs, Pt.cells, Pt.slots] at X3 l3 y3 z3 st3 hQ3
  subst l3 y3 z3
  obtain ⟨rfl, N3q, e3⟩ := hQ3
  have N3 := Fr.app N2 N3q
  obtain ⟨cq4, kq4, q4a, q4b, q4c⟩ := isOf hZ e3 E_obj
  obtain ⟨_, _, ⟨T4, L4, k4, n4⟩, -, X4, ⟨Lc4, hQ4, l4, y4, z4⟩, st4⟩ := X3.virtualBack hx (y := (⟨"com/example/passwarden/passwarden/core/ChangeDecision", "getError", "()Lcom/example/passwarden/passwarden/core/PolicyError;"⟩ : MethodName)) (z := (⟨"com/example/passwarden/passwarden/core/ChangeDecision", "getError", "()Lcom/example/passwarden/passwarden/core/PolicyError;"⟩ : MethodName)) hown (mvT hZ (hw _ (List.mem_of_getElem? (i := 35) rfl))) (mvT hZ (hw _ (List.mem_of_getElem? (i := 36) rfl))) (notFace_of_selects (args := #[]) (mvT hZ (hw _ (List.mem_of_getElem? (i := 38) rfl)))) (mvT hZ (hw _ (List.mem_of_getElem? (i := 38) rfl))) (mvT hZ (hw _ (List.mem_of_getElem? (i := 37) rfl))) (by decide) (backOf (W := 0) (own_getErrorR l Z a0 hw [] h0.size a_INSUFFICIENT_PASSWORD_QUALITY _ n0 F_err) hZ (hw _ (List.mem_of_getElem? (i := 39) rfl)) (hw _ (List.mem_of_getElem? (i := 10) rfl)) (by decide) (by decide)) q4a q4c (g := (mkF m 26 #[.val (.int p1), .val (.int (5 : Int32)), .val (.ref a_INSUFFICIENT_PASSWORD_QUALITY), .val (.ref h0.size)] [(.ref h0.size)])) rfl (by rw [hml]; rfl) (Steps.refl _) (argsL := []) (rest := []) (lenOf own_pd3 rfl) rfl (by show 2 * 0 + _ ≤ _; exact Nat.le_of_eq rfl) (hb hby at_26) (fun _ _ => ⟨rfl, e3, (by decide : 1 + 0 ≤ _), (by decide : 5 + 0 ≤ _)⟩)
  dsimp only [Pt.U, Pt.locs, Pt.cells, Pt.slots] at X4 l4 y4 z4 st4 hQ4
  subst l4 y4 z4
  obtain ⟨rfl, N4q, e4⟩ := hQ4
  have N4 := Fr.app N3 N4q
  obtain ⟨cq5, kq5, q5a, q5b, q5c⟩ := isOf hZ e4 E_obj
  obtain ⟨_, _, ⟨T5, L5, k5, n5⟩, -, X5, ⟨Lc5, hQ5, l5, y5, z5⟩, st5⟩ := X4.virtualBack hx (y := (⟨"com/example/passwarden/passwarden/core/ChangeDecision", "getStoredPassword", "()[B"⟩ : MethodName)) (z := (⟨"com/example/passwarden/passwarden/core/ChangeDecision", "getStoredPassword", "()[B"⟩ : MethodName)) hown (mvT hZ (hw _ (List.mem_of_getElem? (i := 40) rfl))) (mvT hZ (hw _ (List.mem_of_getElem? (i := 41) rfl))) (notFace_of_selects (args := #[]) (mvT hZ (hw _ (List.mem_of_getElem? (i := 43) rfl)))) (mvT hZ (hw _ (List.mem_of_getElem? (i := 43) rfl))) (mvT hZ (hw _ (List.mem_of_getElem? (i := 42) rfl))) (by decide) (backOf (W := 0) (own_getStoredPassword l Z a0 hw [] h0.size _ n0 F_pwd) hZ (hw _ (List.mem_of_getElem? (i := 44) rfl)) (hw _ (List.mem_of_getElem? (i := 10) rfl)) (by decide) (by decide)) q5a q5c (g := (mkF m 34 #[.val (.int p1), .val (.int (5 : Int32)), .val (.ref a_INSUFFICIENT_PASSWORD_QUALITY), .val (.ref h0.size)] [(.ref h0.size)])) rfl (by rw [hml]; rfl) (Steps.refl _) (argsL := []) (rest := []) (lenOf own_pd4 rfl) rfl (by show 2 * 0 + _ ≤ _; exact Nat.le_of_eq rfl) (hb hby at_34) (fun _ _ => ⟨rfl, e4, (by decide : 1 + 0 ≤ _), (by decide : 5 + 0 ≤ _)⟩)
  dsimp only [Pt.U, Pt.locs, Pt.cells, Pt.slots] at X5 l5 y5 z5 st5 hQ5
  subst l5 y5 z5
  obtain ⟨rfl, N5q, e5⟩ := hQ5
  have N5 := Fr.app N4 N5q
  obtain ⟨cq6, kq6, q6a, q6b, q6c⟩ := isOf hZ e5 E_obj
  obtain ⟨_, _, ⟨T6, L6, k6, n6⟩, -, X6, ⟨Lc6, hQ6, l6, y6, z6⟩, st6⟩ := X5.virtualBack hx (y := (⟨"com/example/passwarden/passwarden/core/ChangeDecision", "getState", "()Lcom/example/passwarden/passwarden/core/AccountState;"⟩ : MethodName)) (z := (⟨"com/example/passwarden/passwarden/core/ChangeDecision", "getState", "()Lcom/example/passwarden/passwarden/core/AccountState;"⟩ : MethodName)) hown (mvT hZ (hw _ (List.mem_of_getElem? (i := 45) rfl))) (mvT hZ (hw _ (List.mem_of_getElem? (i := 46) rfl))) (notFace_of_selects (args := #[]) (mvT hZ (hw _ (List.mem_of_getElem? (i := 48) rfl)))) (mvT hZ (hw _ (List.mem_of_getElem? (i := 48) rfl))) (mvT hZ (hw _ (List.mem_of_getElem? (i := 47) rfl))) (by decide) (backOf (W := 0) (own_getState l Z a0 hw [] h0.size _ n0 F_sta) hZ (hw _ (List.mem_of_getElem? (i := 49) rfl)) (hw _ (List.mem_of_getElem? (i := 10) rfl)) (by decide) (by decide)) q6a q6c (g := (mkF m 41 #[.val (.int p1), .val (.int (5 : Int32)), .val (.ref a_INSUFFICIENT_PASSWORD_QUALITY), .val (.ref h0.size)] [(.ref h0.size)])) rfl (by rw [hml]; rfl) (Steps.refl _) (argsL := []) (rest := []) (lenOf own_pd5 rfl) rfl (by show 2 * 0 + _ ≤ _; exact Nat.le_of_eq rfl) (hb hby at_41) (fun _ _ => ⟨rfl, e5, (by decide : 1 + 0 ≤ _), (by decide : 5 + 0 ≤ _)⟩)
  dsimp only [Pt.U, Pt.locs, Pt.cells, Pt.slots] at X6 l6 y6 z6 st6 hQ6
  subst l6 y6 z6
  obtain ⟨rfl, N6q, e6⟩ := hQ6
  have N6 := Fr.app N5 N6q
  obtain ⟨cq7, kq7, q7a, q7b, q7c⟩ := isOf hZ e6 E_obj
  obtain ⟨_, _, ⟨T7, L7, k7, n7⟩, -, X7, ⟨Lc7, hQ7, l7, y7, z7⟩, st7⟩ := X6.virtualBack hx (y := (⟨"com/example/passwarden/passwarden/core/ChangeDecision", "getHistory", "()Lcom/example/passwarden/passwarden/core/PasswordHistory;"⟩ : MethodName)) (z := (⟨"com/example/passwarden/passwarden/core/ChangeDecision", "getHistory", "()Lcom/example/passwarden/passwarden/core/PasswordHistory;"⟩ : MethodName)) hown (mvT hZ (hw _ (List.mem_of_getElem? (i := 50) rfl))) (mvT hZ (hw _ (List.mem_of_getElem? (i := 51) rfl))) (notFace_of_selects (args := #[]) (mvT hZ (hw _ (List.mem_of_getElem? (i := 53) rfl)))) (mvT hZ (hw _ (List.mem_of_getElem? (i := 53) rfl))) (mvT hZ (hw _ (List.mem_of_getElem? (i := 52) rfl))) (by decide) (backOf (W := 0) (own_getHistory l Z a0 hw [] h0.size _ n0 F_his) hZ (hw _ (List.mem_of_getElem? (i := 54) rfl)) (hw _ (List.mem_of_getElem? (i := 10) rfl)) (by decide) (by decide)) q7a q7c (g := (mkF m 48 #[.val (.int p1), .val (.int (5 : Int32)), .val (.ref a_INSUFFICIENT_PASSWORD_QUALITY), .val (.ref h0.size)] [(.ref h0.size)])) rfl (by rw [hml]; rfl) (Steps.refl _) (argsL := []) (rest := []) (lenOf own_pd6 rfl) rfl (by show 2 * 0 + _ ≤ _; exact Nat.le_of_eq rfl) (hb hby at_48) (fun _ _ => ⟨rfl, e6, (by decide : 1 + 0 ≤ _), (by decide : 5 + 0 ≤ _)⟩)
  dsimp only [Pt.U, Pt.locs, Pt.cells, Pt.slots] at X7 l7 y7 z7 st7 hQ7
  subst l7 y7 z7
  obtain ⟨rfl, N7q, e7⟩ := hQ7
  have N7 := Fr.app N6 N7q
  obtain ⟨fs, hr, hrun, hended, hW, hsame⟩ := X7.leave (v := some (.int (1 : Int32))) (fun h => by rw [Bd.returns] at h; cases h)
  refine ⟨_, _, pre0 _ ?_, hrun, hended, _, _, rfl, ?_, ⟨_, rfl⟩, hW, hsame.mono (by decide) (by decide)⟩
  · show Steps p.tables e below (s₁.setTop (mkF m 0 #[.val (.int p1), .unset, .unset, .unset] [])) _
    refine XS.iloadN X0.here hx rfl (hb hby at_0) rfl ?_
    show Steps p.tables e below (s₁.setTop (mkF m 1 #[.val (.int p1), .unset, .unset, .unset] [(.int p1)])) _
    refine X0.ldcInt hx hown (mvT hZ (hw _ (List.mem_of_getElem? (i := 0) rfl))) (g := (mkF m 1 #[.val (.int p1), .unset, .unset, .unset] [(.int p1)])) rfl (hb hby at_1) _ ?_
    show Steps p.tables e below (s₁.setTop (mkF m 3 #[.val (.int p1), .unset, .unset, .unset] [(.int (2147483647 : Int32)), (.int p1)])) _
    refine XS.iand X0.here hx rfl (hb hby at_3) rfl ?_
    show Steps p.tables e below (s₁.setTop (mkF m 4 #[.val (.int p1), .unset, .unset, .unset] [(.int (p1 &&& (2147483647 : Int32)))])) _
    refine XS.bipush X0.here hx rfl (hb hby at_4) ?_
    show Steps p.tables e below (s₁.setTop (mkF m 6 #[.val (.int p1), .unset, .unset, .unset] [(.int (10 : Int32)), (.int (p1 &&& (2147483647 : Int32)))])) _
    refine iremM (g := (mkF m 6 #[.val (.int p1), .unset, .unset, .unset] [(.int (10 : Int32)), (.int (p1 &&& (2147483647 : Int32)))])) X0 hx rfl (hb hby at_6) rfl (by decide) ?_
    show Steps p.tables e below (s₁.setTop (mkF m 7 #[.val (.int p1), .unset, .unset, .unset] [(.int ((p1 &&& (2147483647 : Int32)) % (10 : Int32)))])) _
    rewrite [hi]
    show Steps p.tables e below (s₁.setTop (mkF m 7 #[.val (.int p1), .unset, .unset, .unset] [(.int (5 : Int32))])) _
    refine XS.istoreN X0.here hx rfl (hb hby at_7) rfl (l' := #[.val (.int p1), .val (.int (5 : Int32)), .unset, .unset]) rfl ?_
    show Steps p.tables e below (s₁.setTop (mkF m 8 #[.val (.int p1), .val (.int (5 : Int32)), .unset, .unset] [])) _
    refine XS.iloadN X0.here hx rfl (hb hby at_8) rfl ?_
    show Steps p.tables e below (s₁.setTop (mkF m 9 #[.val (.int p1), .val (.int (5 : Int32)), .unset, .unset] [(.int (5 : Int32))])) _
    refine st1 _ ?_
    show Steps p.tables e below (T1.setTop (mkF m 12 #[.val (.int p1), .val (.int (5 : Int32)), .unset, .unset] [(.ref a_INSUFFICIENT_PASSWORD_QUALITY)])) _
    refine XS.astoreN X1.here hx rfl (hb hby at_12) rfl rfl (l' := #[.val (.int p1), .val (.int (5 : Int32)), .val (.ref a_INSUFFICIENT_PASSWORD_QUALITY), .unset]) rfl ?_
    show Steps p.tables e below (T1.setTop (mkF m 13 #[.val (.int p1), .val (.int (5 : Int32)), .val (.ref a_INSUFFICIENT_PASSWORD_QUALITY), .unset] [])) _
    refine XS.aloadN X1.here hx rfl (hb hby at_13) rfl rfl ?_
    show Steps p.tables e below (T1.setTop (mkF m 14 #[.val (.int p1), .val (.int (5 : Int32)), .val (.ref a_INSUFFICIENT_PASSWORD_QUALITY), .unset] [(.ref a_INSUFFICIENT_PASSWORD_QUALITY)])) _
    refine st2 _ ?_
    show Steps p.tables e below (T2.setTop (mkF m 17 #[.val (.int p1), .val (.int (5 : Int32)), .val (.ref a_INSUFFICIENT_PASSWORD_QUALITY), .unset] [(.ref h0.size)])) _
    refine XS.astoreN X2.here hx rfl (hb hby at_17) rfl rfl (l' := #[.val (.int p1), .val (.int (5 : Int32)), .val (.ref a_INSUFFICIENT_PASSWORD_QUALITY), .val (.ref h0.size)]) rfl ?_
    show Steps p.tables e below (T2.setTop (mkF m 18 #[.val (.int p1), .val (.int (5 : Int32)), .val (.ref a_INSUFFICIENT_PASSWORD_QUALITY), .val (.ref h0.size)] [])) _
    refine XS.aloadN X2.here hx rfl (hb hby at_18) rfl rfl ?_
    show Steps p.tables e below (T2.setTop (mkF m 19 #[.val (.int p1), .val (.int (5 : Int32)), .val (.ref a_INSUFFICIENT_PASSWORD_QUALITY), .val (.ref h0.size)] [(.ref h0.size)])) _
    refine st3.trans ?_
    show Steps p.tables e below (T3.setTop (mkF m 22 #[.val (.int p1), .val (.int (5 : Int32)), .val (.ref a_INSUFFICIENT_PASSWORD_QUALITY), .val (.ref h0.size)] [(.int (0 : Int32))])) _
    refine XS.ifNo X3.here hx rfl (hb hby at_22) rfl (by decide) ?_
    show Steps p.tables e below (T3.setTop (mkF m 25 #[.val (.int p1), .val (.int (5 : Int32)), .val (.ref a_INSUFFICIENT_PASSWORD_QUALITY), .val (.ref h0.size)] [])) _
    refine XS.aloadN X3.here hx rfl (hb hby at_25) rfl rfl ?_
    show Steps p.tables e below (T3.setTop (mkF m 26 #[.val (.int p1), .val (.int (5 : Int32)), .val (.ref a_INSUFFICIENT_PASSWORD_QUALITY), .val (.ref h0.size)] [(.ref h0.size)])) _
    refine st4.trans ?_
    show Steps p.tables e below (T4.setTop (mkF m 29 #[.val (.int p1), .val (.int (5 : Int32)), .val (.ref a_INSUFFICIENT_PASSWORD_QUALITY), .val (.ref h0.size)] [(.ref a_INSUFFICIENT_PASSWORD_QUALITY)])) _
    refine XS.aloadN X4.here hx rfl (hb hby at_29) rfl rfl ?_
    show Steps p.tables e below (T4.setTop (mkF m 30 #[.val (.int p1), .val (.int (5 : Int32)), .val (.ref a_INSUFFICIENT_PASSWORD_QUALITY), .val (.ref h0.size)] [(.ref a_INSUFFICIENT_PASSWORD_QUALITY), (.ref a_INSUFFICIENT_PASSWORD_QUALITY)])) _
    refine Jvm.RoadKit.acmp (g := (mkF m 30 #[.val (.int p1), .val (.int (5 : Int32)), .val (.ref a_INSUFFICIENT_PASSWORD_QUALITY), .val (.ref h0.size)] [(.ref a_INSUFFICIENT_PASSWORD_QUALITY), (.ref a_INSUFFICIENT_PASSWORD_QUALITY)])) X4 hx rfl rfl rfl (pc0 := 30) (pc' := 33) (same := true) rfl (hb hby at_30) rfl (decide_eq_true rfl) (by decide) (by decide) ?_
    show Steps p.tables e below (T4.setTop (mkF m 33 #[.val (.int p1), .val (.int (5 : Int32)), .val (.ref a_INSUFFICIENT_PASSWORD_QUALITY), .val (.ref h0.size)] [])) _
    refine XS.aloadN X4.here hx rfl (hb hby at_33) rfl rfl ?_
    show Steps p.tables e below (T4.setTop (mkF m 34 #[.val (.int p1), .val (.int (5 : Int32)), .val (.ref a_INSUFFICIENT_PASSWORD_QUALITY), .val (.ref h0.size)] [(.ref h0.size)])) _
    refine st5.trans ?_
    show Steps p.tables e below (T5.setTop (mkF m 37 #[.val (.int p1), .val (.int (5 : Int32)), .val (.ref a_INSUFFICIENT_PASSWORD_QUALITY), .val (.ref h0.size)] [.null])) _
    refine XS.ifnonnullNo X5.here hx rfl (hb hby at_37) rfl ?_
    show Steps p.tables e below (T5.setTop (mkF m 40 #[.val (.int p1), .val (.int (5 : Int32)), .val (.ref a_INSUFFICIENT_PASSWORD_QUALITY), .val (.ref h0.size)] [])) _
    refine XS.aloadN X5.here hx rfl (hb hby at_40) rfl rfl ?_
    show Steps p.tables e below (T5.setTop (mkF m 41 #[.val (.int p1), .val (.int (5 : Int32)), .val (.ref a_INSUFFICIENT_PASSWORD_QUALITY), .val (.ref h0.size)] [(.ref h0.size)])) _
    refine st6.trans ?_
    show Steps p.tables e below (T6.setTop (mkF m 44 #[.val (.int p1), .val (.int (5 : Int32)), .val (.ref a_INSUFFICIENT_PASSWORD_QUALITY), .val (.ref h0.size)] [.null])) _
    refine XS.ifnonnullNo X6.here hx rfl (hb hby at_44) rfl ?_
    show Steps p.tables e below (T6.setTop (mkF m 47 #[.val (.int p1), .val (.int (5 : Int32)), .val (.ref a_INSUFFICIENT_PASSWORD_QUALITY), .val (.ref h0.size)] [])) _
    refine XS.aloadN X6.here hx rfl (hb hby at_47) rfl rfl ?_
    show Steps p.tables e below (T6.setTop (mkF m 48 #[.val (.int p1), .val (.int (5 : Int32)), .val (.ref a_INSUFFICIENT_PASSWORD_QUALITY), .val (.ref h0.size)] [(.ref h0.size)])) _
    refine st7.trans ?_
    show Steps p.tables e below (T7.setTop (mkF m 51 #[.val (.int p1), .val (.int (5 : Int32)), .val (.ref a_INSUFFICIENT_PASSWORD_QUALITY), .val (.ref h0.size)] [.null])) _
    refine XS.ifnonnullNo X7.here hx rfl (hb hby at_51) rfl ?_
    show Steps p.tables e below (T7.setTop (mkF m 54 #[.val (.int p1), .val (.int (5 : Int32)), .val (.ref a_INSUFFICIENT_PASSWORD_QUALITY), .val (.ref h0.size)] [])) _
    refine XS.iconst X7.here hx rfl (hb hby at_54) ?_
    show Steps p.tables e below (T7.setTop (mkF m 55 #[.val (.int p1), .val (.int (5 : Int32)), .val (.ref a_INSUFFICIENT_PASSWORD_QUALITY), .val (.ref h0.size)] [(.int (1 : Int32))])) _
    refine XS.goto X7.here hx rfl (pc0 := 55) (pc' := 59) rfl (hb hby at_55) (by decide) (by decide) ?_
    show Steps p.tables e below (T7.setTop (mkF m 59 #[.val (.int p1), .val (.int (5 : Int32)), .val (.ref a_INSUFFICIENT_PASSWORD_QUALITY), .val (.ref h0.size)] [(.int (1 : Int32))])) _
    exact retN X7 hx (t := .boolean) Bd.returns (by simp) (hb hby at_59) hr
  · show own_QL _ n0 _ T7.heap _
    exact ⟨rfl, N7⟩
set_option maxRecDepth 65536 in
set_option maxHeartbeats 40000000 in
theorem own_law_6 (l : Launch) (Z : State) (a0 : Array Value) (hw : ∀ d ∈ tables_1, d.before a0 Z = true) (ws : List Jvm.Cond) (a_PASSWORD_EXPIRED a_PASSWORD_MOD_NOT_ALLOWED a_ACCOUNT_LOCKED a_MUST_SUPPLY_OLD_PASSWORD a_PASSWORD_TOO_YOUNG a_CHANGE_AFTER_RESET a_PASSWORD_IN_HISTORY a_INSUFFICIENT_PASSWORD_QUALITY a_PASSWORD_TOO_SHORT : Addr) (p1 : Int32) (h0 : Heap) (n0 : Nat) (hp : own_Pin Z h0 a_PASSWORD_EXPIRED a_PASSWORD_MOD_NOT_ALLOWED a_ACCOUNT_LOCKED a_MUST_SUPPLY_OLD_PASSWORD a_PASSWORD_TOO_YOUNG a_CHANGE_AFTER_RESET a_PASSWORD_IN_HISTORY a_INSUFFICIENT_PASSWORD_QUALITY a_PASSWORD_TOO_SHORT) (Z0 : n0 ≤ h0.size) (hi : ((p1 &&& (2147483647 : Int32)) % (10 : Int32)) = (6 : Int32)) :
    MetFree l x (head1 (Jvm.Cond.code x code maxLocals ret :: ws) room_1) (fun a U => a = #[(.int p1)] ∧ Z.Warmed39 U.vm ∧ U.heap = h0) (fun _ _ _ _ _ => True) (fun _ U o U' => ∃ v L, o = .returned v ∧ own_QL (.int (1 : Int32)) n0 v U'.heap L ∧ FrameEnd U o U' L room_1.cells room_1.slots) := by
  have hp' := hp
  obtain ⟨S_PASSWORD_EXPIRED, S_PASSWORD_MOD_NOT_ALLOWED, S_ACCOUNT_LOCKED, S_MUST_SUPPLY_OLD_PASSWORD, S_PASSWORD_TOO_YOUNG, S_CHANGE_AFTER_RESET, S_PASSWORD_IN_HISTORY, S_INSUFFICIENT_PASSWORD_QUALITY, S_PASSWORD_TOO_SHORT, E_PASSWORD_EXPIRED, E_PASSWORD_MOD_NOT_ALLOWED, E_ACCOUNT_LOCKED, E_MUST_SUPPLY_OLD_PASSWORD, E_PASSWORD_TOO_YOUNG, E_CHANGE_AFTER_RESET, E_PASSWORD_IN_HISTORY, E_INSUFFICIENT_PASSWORD_QUALITY, E_PASSWORD_TOO_SHORT⟩ := hp'
  refine MetFree.of_bodySF (plainFor_of_name own_pn1) hisR ?_
  intro p e s m args below meth c s₁ Bd hml0 hP hK
  obtain ⟨rfl, hZ, hh⟩ := hP
  have hx := Bd.exec
  have hby := Bd.bytes
  have hml : c.maxLocals = 4 := hml0
  have hown : s.vm.findClass "com/example/passwarden/passwarden/core/ChangeDecisionRefusedPinLaw" = some m.cls := findClass_of_methodNamed Bd.named
  have X0 : Stand p l e room_1 s m #[(.int p1)] below meth c s₁ [] 0 0 := Stand.of_body Bd
  have e0 : s₁.heap = h0 := by rw [← hh, Bd.state]; rfl
  have N0 := Fr.nil n0
  have pre0 : ∀ t, Steps p.tables e below (s₁.setTop (mkF m 0 #[.val (.int p1), .unset, .unset, .unset] [])) t → Steps p.tables e below (s₁.setTop (entryFrame m #[(.int p1)] maxLocals)) t := fun t k => castTop (by first | (simp [entryFrame, mkF, argsToLocals, Value.category, maxLocals]; done) | rfl) k
  obtain ⟨_, _, ⟨T1, L1, k1, n1⟩, -, X1, ⟨Lc1, hQ1, l1, y1, z1⟩, st1⟩ := Jvm.LawKit.callS X0 hx (y := (⟨"com/example/passwarden/passwarden/core/ChangeDecisionRefusedPinLaw", "pick", "(I)Lcom/example/passwarden/passwarden/core/PolicyError;"⟩ : MethodName)) hown (mvT hZ (hw _ (List.mem_of_getElem? (i := 1) rfl))) (mvT hZ (hw _ (List.mem_of_getElem? (i := 2) rfl))) (mvT hZ (hw _ (List.mem_of_getElem? (i := 3) rfl))) (mvT hZ (hw _ (List.mem_of_getElem? (i := 4) rfl))) (by decide) (backOf (W := 0) (own_b1_6 l Z a0 hw [] a_PASSWORD_EXPIRED a_PASSWORD_MOD_NOT_ALLOWED a_ACCOUNT_LOCKED a_MUST_SUPPLY_OLD_PASSWORD a_PASSWORD_TOO_YOUNG a_CHANGE_AFTER_RESET a_PASSWORD_IN_HISTORY a_INSUFFICIENT_PASSWORD_QUALITY a_PASSWORD_TOO_SHORT  h0 n0 hp) hZ (hw _ (List.mem_of_getElem? (i := 4) rfl)) (hw _ (List.mem_of_getElem? (i := 3) rfl)) (by decide) (by decide)) (g := (mkF m 9 #[.val (.int p1), .val (.int (6 : Int32)), .unset, .unset] [(.int (6 : Int32))])) rfl (by rw [hml]; rfl) (argsL := [(.int (6 : Int32))]) (rest := []) (lenOf own_pd0 rfl) rfl (by show 2 * 0 + _ ≤ _; exact Nat.le_of_eq rfl) (hb hby at_9) (fun _ _ => ⟨rfl, e0, (by decide : 0 + 0 ≤ _), (by decide : 0 + 0 ≤ _)⟩)
  dsimp only [Pt.U, Pt.locs, Pt.cells, Pt.slots] at X1 l1 y1 z1 st1 hQ1
  subst l1 y1 z1
  obtain ⟨rfl, N1q, e1⟩ := hQ1
  have N1 := Fr.app N0 N1q
  obtain ⟨_, _, ⟨T2, L2, k2, n2⟩, -, X2, ⟨Lc2, hQ2, l2, y2, z2⟩, st2⟩ := Jvm.LawKit.callS X1 hx (y := (⟨"com/example/passwarden/passwarden/core/ChangeDecision", "refused", "(Lcom/example/passwarden/passwarden/core/PolicyError;)Lcom/example/passwarden/passwarden/core/ChangeDecision;"⟩ : MethodName)) hown (mvT hZ (hw _ (List.mem_of_getElem? (i := 8) rfl))) (mvT hZ (hw _ (List.mem_of_getElem? (i := 9) rfl))) (mvT hZ (hw _ (List.mem_of_getElem? (i := 10) rfl))) (mvT hZ (hw _ (List.mem_of_getElem? (i := 11) rfl))) (by decide) (backOf (W := 0) (own_refR l Z a0 hw [] a_PASSWORD_TOO_SHORT h0 n0 Z0) hZ (hw _ (List.mem_of_getElem? (i := 11) rfl)) (hw _ (List.mem_of_getElem? (i := 10) rfl)) (by decide) (by decide)) (g := (mkF m 14 #[.val (.int p1), .val (.int (6 : Int32)), .val (.ref a_PASSWORD_TOO_SHORT), .unset] [(.ref a_PASSWORD_TOO_SHORT)])) rfl (by rw [hml]; rfl) (argsL := [(.ref a_PASSWORD_TOO_SHORT)]) (rest := []) (lenOf own_pd1 rfl) rfl (by show 2 * 0 + _ ≤ _; exact Nat.le_of_eq rfl) (hb hby at_14) (fun _ _ => ⟨rfl, e1, (by decide : 0 + 1 ≤ _), (by decide : 0 + 5 ≤ _)⟩)
  dsimp only [Pt.U, Pt.locs, Pt.cells, Pt.slots] at X2 l2 y2 z2 st2 hQ2
  subst l2 y2 z2
  obtain ⟨rfl, N2q, E_obj, F_acc, F_err, F_pwd, F_sta, F_his⟩ := hQ2
  have e2 : T2.heap = T2.heap := rfl
  have N2 := Fr.app N1 N2q
  obtain ⟨cq3, kq3, q3a, q3b, q3c⟩ := isOf hZ e2 E_obj
  obtain ⟨_, _, ⟨T3, L3, k3, n3⟩, -, X3, ⟨Lc3, hQ3, l3, y3, z3⟩, st3⟩ := X2.virtualBack hx (y := (⟨"com/example/passwarden/passwarden/core/ChangeDecision", "isAccepted", "()Z"⟩ : MethodName)) (z := (⟨"com/example/passwarden/passwarden/core/ChangeDecision", "isAccepted", "()Z"⟩ : MethodName)) hown (mvT hZ (hw _ (List.mem_of_getElem? (i := 30) rfl))) (mvT hZ (hw _ (List.mem_of_getElem? (i := 31) rfl))) (notFace_of_selects (args := #[]) (mvT hZ (hw _ (List.mem_of_getElem? (i := 33) rfl)))) (mvT hZ (hw _ (List.mem_of_getElem? (i := 33) rfl))) (mvT hZ (hw _ (List.mem_of_getElem? (i := 32) rfl))) (by decide) (backOf (W := 0) (own_isAccepted l Z a0 hw [] h0.size _ n0 F_acc) hZ (hw _ (List.mem_of_getElem? (i := 34) rfl)) (hw _ (List.mem_of_getElem? (i := 10) rfl)) (by decide) (by decide)) q3a q3c (g := (mkF m 19 #[.val (.int p1), .val (.int (6 : Int32)), .val (.ref a_PASSWORD_TOO_SHORT), .val (.ref h0.size)] [(.ref h0.size)])) rfl (by rw [hml]; rfl) (Steps.refl _) (argsL := []) (rest := []) (lenOf own_pd2 rfl) rfl (by show 2 * 0 + _ ≤ _; exact Nat.le_of_eq rfl) (hb hby at_19) (fun _ _ => ⟨rfl, e2, (by decide : 1 + 0 ≤ _), (by decide : 5 + 0 ≤ _)⟩)
  dsimp only [Pt.U, Pt.locs, Pt.cells, Pt.slots] at X3 l3 y3 z3 st3 hQ3
  subst l3 y3 z3
  obtain ⟨rfl, N3q, e3⟩ := hQ3
  have N3 := Fr.app N2 N3q
  obtain ⟨cq4, kq4, q4a, q4b, q4c⟩ := isOf hZ e3 E_obj
  obtain ⟨_, _, ⟨T4, L4, k4, n4⟩, -, X4, ⟨Lc4, hQ4, l4, y4, z4⟩, st4⟩ := X3.virtualBack hx (y := (⟨"com/example/passwarden/passwarden/core/ChangeDecision", "getError", "()Lcom/example/passwarden/passwarden/core/PolicyError;"⟩ : MethodName)) (z := (⟨"com/example/passwarden/passwarden/core/ChangeDecision", "getError", "()Lcom/example/passwarden/passwarden/core/PolicyError;"⟩ : MethodName)) hown (mvT hZ (hw _ (List.mem_of_getElem? (i := 35) rfl))) (mvT hZ (hw _ (List.mem_of_getElem? (i := 36) rfl))) (notFace_of_selects (args := #[]) (mvT hZ (hw _ (List.mem_of_getElem? (i := 38) rfl)))) (mvT hZ (hw _ (List.mem_of_getElem? (i := 38) rfl))) (mvT hZ (hw _ (List.mem_of_getElem? (i := 37) rfl))) (by decide) (backOf (W := 0) (own_getErrorR l Z a0 hw [] h0.size a_PASSWORD_TOO_SHORT _ n0 F_err) hZ (hw _ (List.mem_of_getElem? (i := 39) rfl)) (hw _ (List.mem_of_getElem? (i := 10) rfl)) (by decide) (by decide)) q4a q4c (g := (mkF m 26 #[.val (.int p1), .val (.int (6 : Int32)), .val (.ref a_PASSWORD_TOO_SHORT), .val (.ref h0.size)] [(.ref h0.size)])) rfl (by rw [hml]; rfl) (Steps.refl _) (argsL := []) (rest := []) (lenOf own_pd3 rfl) rfl (by show 2 * 0 + _ ≤ _; exact Nat.le_of_eq rfl) (hb hby at_26) (fun _ _ => ⟨rfl, e3, (by decide : 1 + 0 ≤ _), (by decide : 5 + 0 ≤ _)⟩)
  dsimp only [Pt.U, Pt.locs, Pt.cells, Pt.slots] at X4 l4 y4 z4 st4 hQ4
  subst l4 y4 z4
  obtain ⟨rfl, N4q, e4⟩ := hQ4
  have N4 := Fr.app N3 N4q
  obtain ⟨cq5, kq5, q5a, q5b, q5c⟩ := isOf hZ e4 E_obj
  obtain ⟨_, _, ⟨T5, L5, k5, n5⟩, -, X5, ⟨Lc5, hQ5, l5, y5, z5⟩, st5⟩ := X4.virtualBack hx (y := (⟨"com/example/passwarden/passwarden/core/ChangeDecision", "getStoredPassword", "()[B"⟩ : MethodName)) (z := (⟨"com/example/passwarden/passwarden/core/ChangeDecision", "getStoredPassword", "()[B"⟩ : MethodName)) hown (mvT hZ (hw _ (List.mem_of_getElem? (i := 40) rfl))) (mvT hZ (hw _ (List.mem_of_getElem? (i := 41) rfl))) (notFace_of_selects (args := #[]) (mvT hZ (hw _ (List.mem_of_getElem? (i := 43) rfl)))) (mvT hZ (hw _ (List.mem_of_getElem? (i := 43) rfl))) (mvT hZ (hw _ (List.mem_of_getElem? (i := 42) rfl))) (by decide) (backOf (W := 0) (own_getStoredPassword l Z a0 hw [] h0.size _ n0 F_pwd) hZ (hw _ (List.mem_of_getElem? (i := 44) rfl)) (hw _ (List.mem_of_getElem? (i := 10) rfl)) (by decide) (by decide)) q5a q5c (g := (mkF m 34 #[.val (.int p1), .val (.int (6 : Int32)), .val (.ref a_PASSWORD_TOO_SHORT), .val (.ref h0.size)] [(.ref h0.size)])) rfl (by rw [hml]; rfl) (Steps.refl _) (argsL := []) (rest := []) (lenOf own_pd4 rfl) rfl (by show 2 * 0 + _ ≤ _; exact Nat.le_of_eq rfl) (hb hby at_34) (fun _ _ => ⟨rfl, e4, (by decide : 1 + 0 ≤ _), (by decide : 5 + 0 ≤ _)⟩)
  dsimp only [Pt.U, Pt.locs, Pt.cells, Pt.slots] at X5 l5 y5 z5 st5 hQ5
  subst l5 y5 z5
  obtain ⟨rfl, N5q, e5⟩ := hQ5
  have N5 := Fr.app N4 N5q
  obtain ⟨cq6, kq6, q6a, q6b, q6c⟩ := isOf hZ e5 E_obj
  obtain ⟨_, _, ⟨T6, L6, k6, n6⟩, -, X6, ⟨Lc6, hQ6, l6, y6, z6⟩, st6⟩ := X5.virtualBack hx (y := (⟨"com/example/passwarden/passwarden/core/ChangeDecision", "getState", "()Lcom/example/passwarden/passwarden/core/AccountState;"⟩ : MethodName)) (z := (⟨"com/example/passwarden/passwarden/core/ChangeDecision", "getState", "()Lcom/example/passwarden/passwarden/core/AccountState;"⟩ : MethodName)) hown (mvT hZ (hw _ (List.mem_of_getElem? (i := 45) rfl))) (mvT hZ (hw _ (List.mem_of_getElem? (i := 46) rfl))) (notFace_of_selects (args := #[]) (mvT hZ (hw _ (List.mem_of_getElem? (i := 48) rfl)))) (mvT hZ (hw _ (List.mem_of_getElem? (i := 48) rfl))) (mvT hZ (hw _ (List.mem_of_getElem? (i := 47) rfl))) (by decide) (backOf (W := 0) (own_getState l Z a0 hw [] h0.size _ n0 F_sta) hZ (hw _ (List.mem_of_getElem? (i := 49) rfl)) (hw _ (List.mem_of_getElem? (i := 10) rfl)) (by decide) (by decide)) q6a q6c (g := (mkF m 41 #[.val (.int p1), .val (.int (6 : Int32)), .val (.ref a_PASSWORD_TOO_SHORT), .val (.ref h0.size)] [(.ref h0.size)])) rfl (by rw [hml]; rfl) (Steps.refl _) (argsL := []) (rest := []) (lenOf own_pd5 rfl) rfl (by show 2 * 0 + _ ≤ _; exact Nat.le_of_eq rfl) (hb hby at_41) (fun _ _ => ⟨rfl, e5, (by decide : 1 + 0 ≤ _), (by decide : 5 + 0 ≤ _)⟩)
  dsimp only [Pt.U, Pt.locs, Pt.cells, Pt.slots] at X6 l6 y6 z6 st6 hQ6
  subst l6 y6 z6
  obtain ⟨rfl, N6q, e6⟩ := hQ6
  have N6 := Fr.app N5 N6q
  obtain ⟨cq7, kq7, q7a, q7b, q7c⟩ := isOf hZ e6 E_obj
  obtain ⟨_, _, ⟨T7, L7, k7, n7⟩, -, X7, ⟨Lc7, hQ7, l7, y7, z7⟩, st7⟩ := X6.virtualBack hx (y := (⟨"com/example/passwarden/passwarden/core/ChangeDecision", "getHistory", "()Lcom/example/passwarden/passwarden/core/PasswordHistory;"⟩ : MethodName)) (z := (⟨"com/example/passwarden/passwarden/core/ChangeDecision", "getHistory", "()Lcom/example/passwarden/passwarden/core/PasswordHistory;"⟩ : MethodName)) hown (mvT hZ (hw _ (List.mem_of_getElem? (i := 50) rfl))) (mvT hZ (hw _ (List.mem_of_getElem? (i := 51) rfl))) (notFace_of_selects (args := #[]) (mvT hZ (hw _ (List.mem_of_getElem? (i := 53) rfl)))) (mvT hZ (hw _ (List.mem_of_getElem? (i := 53) rfl))) (mvT hZ (hw _ (List.mem_of_getElem? (i := 52) rfl))) (by decide) (backOf (W := 0) (own_getHistory l Z a0 hw [] h0.size _ n0 F_his) hZ (hw _ (List.mem_of_getElem? (i := 54) rfl)) (hw _ (List.mem_of_getElem? (i := 10) rfl)) (by decide) (by decide)) q7a q7c (g := (mkF m 48 #[.val (.int p1), .val (.int (6 : Int32)), .val (.ref a_PASSWORD_TOO_SHORT), .val (.ref h0.size)] [(.ref h0.size)])) rfl (by rw [hml]; rfl) (Steps.refl _) (argsL := []) (rest := []) (lenOf own_pd6 rfl) rfl (by show 2 * 0 + _ ≤ _; exact Nat.le_of_eq rfl) (hb hby at_48) (fun _ _ => ⟨rfl, e6, (by decide : 1 + 0 ≤ _), (by decide : 5 + 0 ≤ _)⟩)
  dsimp only [Pt.U, Pt.locs, Pt.cells, Pt.slots] at X7 l7 y7 z7 st7 hQ7
  subst l7 y7 z7
  obtain ⟨rfl, N7q, e7⟩ := hQ7
  have N7 := Fr.app N6 N7q
  obtain ⟨fs, hr, hrun, hended, hW, hsame⟩ := X7.leave (v := some (.int (1 : Int32))) (fun h => by rw [Bd.returns] at h; cases h)
  refine ⟨_, _, pre0 _ ?_, hrun, hended, _, _, rfl, ?_, ⟨_, rfl⟩, hW, hsame.mono (by decide) (by decide)⟩
  · show Steps p.tables e below (s₁.setTop (mkF m 0 #[.val (.int p1), .unset, .unset, .unset] [])) _
    refine XS.iloadN X0.here hx rfl (hb hby at_0) rfl ?_
    show Steps p.tables e below (s₁.setTop (mkF m 1 #[.val (.int p1), .unset, .unset, .unset] [(.int p1)])) _
    refine X0.ldcInt hx hown (mvT hZ (hw _ (List.mem_of_getElem? (i := 0) rfl))) (g := (mkF m 1 #[.val (.int p1), .unset, .unset, .unset] [(.int p1)])) rfl (hb hby at_1) _ ?_
    show Steps p.tables e below (s₁.setTop (mkF m 3 #[.val (.int p1), .unset, .unset, .unset] [(.int (2147483647 : Int32)), (.int p1)])) _
    refine XS.iand X0.here hx rfl (hb hby at_3) rfl ?_
    show Steps p.tables e below (s₁.setTop (mkF m 4 #[.val (.int p1), .unset, .unset, .unset] [(.int (p1 &&& (2147483647 : Int32)))])) _
    refine XS.bipush X0.here hx rfl (hb hby at_4) ?_
    show Steps p.tables e below (s₁.setTop (mkF m 6 #[.val (.int p1), .unset, .unset, .unset] [(.int (10 : Int32)), (.int (p1 &&& (2147483647 : Int32)))])) _
    refine iremM (g := (mkF m 6 #[.val (.int p1), .unset, .unset, .unset] [(.int (10 : Int32)), (.int (p1 &&& (2147483647 : Int32)))])) X0 hx rfl (hb hby at_6) rfl (by decide) ?_
    show Steps p.tables e below (s₁.setTop (mkF m 7 #[.val (.int p1), .unset, .unset, .unset] [(.int ((p1 &&& (2147483647 : Int32)) % (10 : Int32)))])) _
    rewrite [hi]
    show Steps p.tables e below (s₁.setTop (mkF m 7 #[.val (.int p1), .unset, .unset, .unset] [(.int (6 : Int32))])) _
    refine XS.istoreN X0.here hx rfl (hb hby at_7) rfl (l' := #[.val (.int p1), .val (.int (6 : Int32)), .unset, .unset]) rfl ?_
    show Steps p.tables e below (s₁.setTop (mkF m 8 #[.val (.int p1), .val (.int (6 : Int32)), .unset, .unset] [])) _
    refine XS.iloadN X0.here hx rfl (hb hby at_8) rfl ?_
    show Steps p.tables e below (s₁.setTop (mkF m 9 #[.val (.int p1), .val (.int (6 : Int32)), .unset, .unset] [(.int (6 : Int32))])) _
    refine st1 _ ?_
    show Steps p.tables e below (T1.setTop (mkF m 12 #[.val (.int p1), .val (.int (6 : Int32)), .unset, .unset] [(.ref a_PASSWORD_TOO_SHORT)])) _
    refine XS.astoreN X1.here hx rfl (hb hby at_12) rfl rfl (l' := #[.val (.int p1), .val (.int (6 : Int32)), .val (.ref a_PASSWORD_TOO_SHORT), .unset]) rfl ?_
    show Steps p.tables e below (T1.setTop (mkF m 13 #[.val (.int p1), .val (.int (6 : Int32)), .val (.ref a_PASSWORD_TOO_SHORT), .unset] [])) _
    refine XS.aloadN X1.here hx rfl (hb hby at_13) rfl rfl ?_
    show Steps p.tables e below (T1.setTop (mkF m 14 #[.val (.int p1), .val (.int (6 : Int32)), .val (.ref a_PASSWORD_TOO_SHORT), .unset] [(.ref a_PASSWORD_TOO_SHORT)])) _
    refine st2 _ ?_
    show Steps p.tables e below (T2.setTop (mkF m 17 #[.val (.int p1), .val (.int (6 : Int32)), .val (.ref a_PASSWORD_TOO_SHORT), .unset] [(.ref h0.size)])) _
    refine XS.astoreN X2.here hx rfl (hb hby at_17) rfl rfl (l' := #[.val (.int p1), .val (.int (6 : Int32)), .val (.ref a_PASSWORD_TOO_SHORT), .val (.ref h0.size)]) rfl ?_
    show Steps p.tables e below (T2.setTop (mkF m 18 #[.val (.int p1), .val (.int (6 : Int32)), .val (.ref a_PASSWORD_TOO_SHORT), .val (.ref h0.size)] [])) _
    refine XS.aloadN X2.here hx rfl (hb hby at_18) rfl rfl ?_
    show Steps p.tables e below (T2.setTop (mkF m 19 #[.val (.int p1), .val (.int (6 : Int32)), .val (.ref a_PASSWORD_TOO_SHORT), .val (.ref h0.size)] [(.ref h0.size)])) _
    refine st3.trans ?_
    show Steps p.tables e below (T3.setTop (mkF m 22 #[.val (.int p1), .val (.int (6 : Int32)), .val (.ref a_PASSWORD_TOO_SHORT), .val (.ref h0.size)] [(.int (0 : Int32))])) _
    refine XS.ifNo X3.here hx rfl (hb hby at_22) rfl (by decide) ?_
    show Steps p.tables e below (T3.setTop (mkF m 25 #[.val (.int p1), .val (.int (6 : Int32)), .val (.ref a_PASSWORD_TOO_SHORT), .val (.ref h0.size)] [])) _
    refine XS.aloadN X3.here hx rfl (hb hby at_25) rfl rfl ?_
    show Steps p.tables e below (T3.setTop (mkF m 26 #[.val (.int p1), .val (.int (6 : Int32)), .val (.ref a_PASSWORD_TOO_SHORT), .val (.ref h0.size)] [(.ref h0.size)])) _
    refine st4.trans ?_
    show Steps p.tables e below (T4.setTop (mkF m 29 #[.val (.int p1), .val (.int (6 : Int32)), .val (.ref a_PASSWORD_TOO_SHORT), .val (.ref h0.size)] [(.ref a_PASSWORD_TOO_SHORT)])) _
    refine XS.aloadN X4.here hx rfl (hb hby at_29) rfl rfl ?_
    show Steps p.tables e below (T4.setTop (mkF m 30 #[.val (.int p1), .val (.int (6 : Int32)), .val (.ref a_PASSWORD_TOO_SHORT), .val (.ref h0.size)] [(.ref a_PASSWORD_TOO_SHORT), (.ref a_PASSWORD_TOO_SHORT)])) _
    refine Jvm.RoadKit.acmp (g := (mkF m 30 #[.val (.int p1), .val (.int (6 : Int32)), .val (.ref a_PASSWORD_TOO_SHORT), .val (.ref h0.size)] [(.ref a_PASSWORD_TOO_SHORT), (.ref a_PASSWORD_TOO_SHORT)])) X4 hx rfl rfl rfl (pc0 := 30) (pc' := 33) (same := true) rfl (hb hby at_30) rfl (decide_eq_true rfl) (by decide) (by decide) ?_
    show Steps p.tables e below (T4.setTop (mkF m 33 #[.val (.int p1), .val (.int (6 : Int32)), .val (.ref a_PASSWORD_TOO_SHORT), .val (.ref h0.size)] [])) _
    refine XS.aloadN X4.here hx rfl (hb hby at_33) rfl rfl ?_
    show Steps p.tables e below (T4.setTop (mkF m 34 #[.val (.int p1), .val (.int (6 : Int32)), .val (.ref a_PASSWORD_TOO_SHORT), .val (.ref h0.size)] [(.ref h0.size)])) _
    refine st5.trans ?_
    show Steps p.tables e below (T5.setTop (mkF m 37 #[.val (.int p1), .val (.int (6 : Int32)), .val (.ref a_PASSWORD_TOO_SHORT), .val (.ref h0.size)] [.null])) _
    refine XS.ifnonnullNo X5.here hx rfl (hb hby at_37) rfl ?_
    show Steps p.tables e below (T5.setTop (mkF m 40 #[.val (.int p1), .val (.int (6 : Int32)), .val (.ref a_PASSWORD_TOO_SHORT), .val (.ref h0.size)] [])) _
    refine XS.aloadN X5.here hx rfl (hb hby at_40) rfl rfl ?_
    show Steps p.tables e below (T5.setTop (mkF m 41 #[.val (.int p1), .val (.int (6 : Int32)), .val (.ref a_PASSWORD_TOO_SHORT), .val (.ref h0.size)] [(.ref h0.size)])) _
    refine st6.trans ?_
    show Steps p.tables e below (T6.setTop (mkF m 44 #[.val (.int p1), .val (.int (6 : Int32)), .val (.ref a_PASSWORD_TOO_SHORT), .val (.ref h0.size)] [.null])) _
    refine XS.ifnonnullNo X6.here hx rfl (hb hby at_44) rfl ?_
    show Steps p.tables e below (T6.setTop (mkF m 47 #[.val (.int p1), .val (.int (6 : Int32)), .val (.ref a_PASSWORD_TOO_SHORT), .val (.ref h0.size)] [])) _
    refine XS.aloadN X6.here hx rfl (hb hby at_47) rfl rfl ?_
    show Steps p.tables e below (T6.setTop (mkF m 48 #[.val (.int p1), .val (.int (6 : Int32)), .val (.ref a_PASSWORD_TOO_SHORT), .val (.ref h0.size)] [(.ref h0.size)])) _
    refine st7.trans ?_
    show Steps p.tables e below (T7.setTop (mkF m 51 #[.val (.int p1), .val (.int (6 : Int32)), .val (.ref a_PASSWORD_TOO_SHORT), .val (.ref h0.size)] [.null])) _
    refine XS.ifnonnullNo X7.here hx rfl (hb hby at_51) rfl ?_
    show Steps p.tables e below (T7.setTop (mkF m 54 #[.val (.int p1), .val (.int (6 : Int32)), .val (.ref a_PASSWORD_TOO_SHORT), .val (.ref h0.size)] [])) _
    refine XS.iconst X7.here hx rfl (hb hby at_54) ?_
    show Steps p.tables e below (T7.setTop (mkF m 55 #[.val (.int p1), .val (.int (6 : Int32)), .val (.ref a_PASSWORD_TOO_SHORT), .val (.ref h0.size)] [(.int (1 : Int32))])) _
    refine XS.goto X7.here hx rfl (pc0 := 55) (pc' := 59) rfl (hb hby at_55) (by decide) (by decide) ?_
    show Steps p.tables e below (T7.setTop (mkF m 59 #[.val (.int p1), .val (.int (6 : Int32)), .val (.ref a_PASSWORD_TOO_SHORT), .val (.ref h0.size)] [(.int (1 : Int32))])) _
    exact retN X7 hx (t := .boolean) Bd.returns (by simp) (hb hby at_59) hr
  · show own_QL _ n0 _ T7.heap _
    exact ⟨rfl, N7⟩
set_option maxRecDepth 65536 in
set_option maxHeartbeats 40000000 in
theorem own_law_7 (l : Launch) (Z : State) (a0 : Array Value) (hw : ∀ d ∈ tables_1, d.before a0 Z = true) (ws : List Jvm.Cond) (a_PASSWORD_EXPIRED a_PASSWORD_MOD_NOT_ALLOWED a_ACCOUNT_LOCKED a_MUST_SUPPLY_OLD_PASSWORD a_PASSWORD_TOO_YOUNG a_CHANGE_AFTER_RESET a_PASSWORD_IN_HISTORY a_INSUFFICIENT_PASSWORD_QUALITY a_PASSWORD_TOO_SHORT : Addr) (p1 : Int32) (h0 : Heap) (n0 : Nat) (hp : own_Pin Z h0 a_PASSWORD_EXPIRED a_PASSWORD_MOD_NOT_ALLOWED a_ACCOUNT_LOCKED a_MUST_SUPPLY_OLD_PASSWORD a_PASSWORD_TOO_YOUNG a_CHANGE_AFTER_RESET a_PASSWORD_IN_HISTORY a_INSUFFICIENT_PASSWORD_QUALITY a_PASSWORD_TOO_SHORT) (Z0 : n0 ≤ h0.size) (hi : ((p1 &&& (2147483647 : Int32)) % (10 : Int32)) = (7 : Int32)) :
    MetFree l x (head1 (Jvm.Cond.code x code maxLocals ret :: ws) room_1) (fun a U => a = #[(.int p1)] ∧ Z.Warmed39 U.vm ∧ U.heap = h0) (fun _ _ _ _ _ => True) (fun _ U o U' => ∃ v L, o = .returned v ∧ own_QL (.int (1 : Int32)) n0 v U'.heap L ∧ FrameEnd U o U' L room_1.cells room_1.slots) := by
  have hp' := hp
  obtain ⟨S_PASSWORD_EXPIRED, S_PASSWORD_MOD_NOT_ALLOWED, S_ACCOUNT_LOCKED, S_MUST_SUPPLY_OLD_PASSWORD, S_PASSWORD_TOO_YOUNG, S_CHANGE_AFTER_RESET, S_PASSWORD_IN_HISTORY, S_INSUFFICIENT_PASSWORD_QUALITY, S_PASSWORD_TOO_SHORT, E_PASSWORD_EXPIRED, E_PASSWORD_MOD_NOT_ALLOWED, E_ACCOUNT_LOCKED, E_MUST_SUPPLY_OLD_PASSWORD, E_PASSWORD_TOO_YOUNG, E_CHANGE_AFTER_RESET, E_PASSWORD_IN_HISTORY, E_INSUFFICIENT_PASSWORD_QUALITY, E_PASSWORD_TOO_SHORT⟩ := hp'
  refine MetFree.of_bodySF (plainFor_of_name own_pn1) hisR ?_
  intro p e s m args below meth c s₁ Bd hml0 hP hK
  obtain ⟨rfl, hZ, hh⟩ := hP
  have hx := Bd.exec
  have hby := Bd.bytes
  have hml : c.maxLocals = 4 := hml0
  have hown : s.vm.findClass "com/example/passwarden/passwarden/core/ChangeDecisionRefusedPinLaw" = some m.cls := findClass_of_methodNamed Bd.named
  have X0 : Stand p l e room_1 s m #[(.int p1)] below meth c s₁ [] 0 0 := Stand.of_body Bd
  have e0 : s₁.heap = h0 := by rw [← hh, Bd.state]; rfl
  have N0 := Fr.nil n0
  have pre0 : ∀ t, Steps p.tables e below (s₁.setTop (mkF m 0 #[.val (.int p1), .unset, .unset, .unset] [])) t → Steps p.tables e below (s₁.setTop (entryFrame m #[(.int p1)] maxLocals)) t := fun t k => castTop (by first | (simp [entryFrame, mkF, argsToLocals, Value.category, maxLocals]; done) | rfl) k
  obtain ⟨_, _, ⟨T1, L1, k1, n1⟩, -, X1, ⟨Lc1, hQ1, l1, y1, z1⟩, st1⟩ := Jvm.LawKit.callS X0 hx (y := (⟨"com/example/passwarden/passwarden/core/ChangeDecisionRefusedPinLaw", "pick", "(I)Lcom/example/passwarden/passwarden/core/PolicyError;"⟩ : MethodName)) hown (mvT hZ (hw _ (List.mem_of_getElem? (i := 1) rfl))) (mvT hZ (hw _ (List.mem_of_getElem? (i := 2) rfl))) (mvT hZ (hw _ (List.mem_of_getElem? (i := 3) rfl))) (mvT hZ (hw _ (List.mem_of_getElem? (i := 4) rfl))) (by decide) (backOf (W := 0) (own_b1_7 l Z a0 hw [] a_PASSWORD_EXPIRED a_PASSWORD_MOD_NOT_ALLOWED a_ACCOUNT_LOCKED a_MUST_SUPPLY_OLD_PASSWORD a_PASSWORD_TOO_YOUNG a_CHANGE_AFTER_RESET a_PASSWORD_IN_HISTORY a_INSUFFICIENT_PASSWORD_QUALITY a_PASSWORD_TOO_SHORT  h0 n0 hp) hZ (hw _ (List.mem_of_getElem? (i := 4) rfl)) (hw _ (List.mem_of_getElem? (i := 3) rfl)) (by decide) (by decide)) (g := (mkF m 9 #[.val (.int p1), .val (.int (7 : Int32)), .unset, .unset] [(.int (7 : Int32))])) rfl (by rw [hml]; rfl) (argsL := [(.int (7 : Int32))]) (rest := []) (lenOf own_pd0 rfl) rfl (by show 2 * 0 + _ ≤ _; exact Nat.le_of_eq rfl) (hb hby at_9) (fun _ _ => ⟨rfl, e0, (by decide : 0 + 0 ≤ _), (by decide : 0 + 0 ≤ _)⟩)
  dsimp only [Pt.U, Pt.locs, Pt.cells, Pt.slots] at X1 l1 y1 z1 st1 hQ1
  subst l1 y1 z1
  obtain ⟨rfl, N1q, e1⟩ := hQ1
  have N1 := Fr.app N0 N1q
  obtain ⟨_, _, ⟨T2, L2, k2, n2⟩, -, X2, ⟨Lc2, hQ2, l2, y2, z2⟩, st2⟩ := Jvm.LawKit.callS X1 hx (y := (⟨"com/example/passwarden/passwarden/core/ChangeDecision", "refused", "(Lcom/example/passwarden/passwarden/core/PolicyError;)Lcom/example/passwarden/passwarden/core/ChangeDecision;"⟩ : MethodName)) hown (mvT hZ (hw _ (List.mem_of_getElem? (i := 8) rfl))) (mvT hZ (hw _ (List.mem_of_getElem? (i := 9) rfl))) (mvT hZ (hw _ (List.mem_of_getElem? (i := 10) rfl))) (mvT hZ (hw _ (List.mem_of_getElem? (i := 11) rfl))) (by decide) (backOf (W := 0) (own_refR l Z a0 hw [] a_PASSWORD_TOO_YOUNG h0 n0 Z0) hZ (hw _ (List.mem_of_getElem? (i := 11) rfl)) (hw _ (List.mem_of_getElem? (i := 10) rfl)) (by decide) (by decide)) (g := (mkF m 14 #[.val (.int p1), .val (.int (7 : Int32)), .val (.ref a_PASSWORD_TOO_YOUNG), .unset] [(.ref a_PASSWORD_TOO_YOUNG)])) rfl (by rw [hml]; rfl) (argsL := [(.ref a_PASSWORD_TOO_YOUNG)]) (rest := []) (lenOf own_pd1 rfl) rfl (by show 2 * 0 + _ ≤ _; exact Nat.le_of_eq rfl) (hb hby at_14) (fun _ _ => ⟨rfl, e1, (by decide : 0 + 1 ≤ _), (by decide : 0 + 5 ≤ _)⟩)
  dsimp only [Pt.U, Pt.locs, Pt.cells, Pt.slots] at X2 l2 y2 z2 st2 hQ2
  subst l2 y2 z2
  obtain ⟨rfl, N2q, E_obj, F_acc, F_err, F_pwd, F_sta, F_his⟩ := hQ2
  have e2 : T2.heap = T2.heap := rfl
  have N2 := Fr.app N1 N2q
  obtain ⟨cq3, kq3, q3a, q3b, q3c⟩ := isOf hZ e2 E_obj
  obtain ⟨_, _, ⟨T3, L3, k3, n3⟩, -, X3, ⟨Lc3, hQ3, l3, y3, z3⟩, st3⟩ := X2.virtualBack hx (y := (⟨"com/example/passwarden/passwarden/core/ChangeDecision", "isAccepted", "()Z"⟩ : MethodName)) (z := (⟨"com/example/passwarden/passwarden/core/ChangeDecision", "isAccepted", "()Z"⟩ : MethodName)) hown (mvT hZ (hw _ (List.mem_of_getElem? (i := 30) rfl))) (mvT hZ (hw _ (List.mem_of_getElem? (i := 31) rfl))) (notFace_of_selects (args := #[]) (mvT hZ (hw _ (List.mem_of_getElem? (i := 33) rfl)))) (mvT hZ (hw _ (List.mem_of_getElem? (i := 33) rfl))) (mvT hZ (hw _ (List.mem_of_getElem? (i := 32) rfl))) (by decide) (backOf (W := 0) (own_isAccepted l Z a0 hw [] h0.size _ n0 F_acc) hZ (hw _ (List.mem_of_getElem? (i := 34) rfl)) (hw _ (List.mem_of_getElem? (i := 10) rfl)) (by decide) (by decide)) q3a q3c (g := (mkF m 19 #[.val (.int p1), .val (.int (7 : Int32)), .val (.ref a_PASSWORD_TOO_YOUNG), .val (.ref h0.size)] [(.ref h0.size)])) rfl (by rw [hml]; rfl) (Steps.refl _) (argsL := []) (rest := []) (lenOf own_pd2 rfl) rfl (by show 2 * 0 + _ ≤ _; exact Nat.le_of_eq rfl) (hb hby at_19) (fun _ _ => ⟨rfl, e2, (by decide : 1 + 0 ≤ _), (by decide : 5 + 0 ≤ _)⟩)
  dsimp only [Pt.U, Pt.locs, Pt.cells, Pt.slots] at X3 l3 y3 z3 st3 hQ3
  subst l3 y3 z3
  obtain ⟨rfl, N3q, e3⟩ := hQ3
  have N3 := Fr.app N2 N3q
  obtain ⟨cq4, kq4, q4a, q4b, q4c⟩ := isOf hZ e3 E_obj
  obtain ⟨_, _, ⟨T4, L4, k4, n4⟩, -, X4, ⟨Lc4, hQ4, l4, y4, z4⟩, st4⟩ := X3.virtualBack hx (y := (⟨"com/example/passwarden/passwarden/core/ChangeDecision", "getError", "()Lcom/example/passwarden/passwarden/core/PolicyError;"⟩ : MethodName)) (z := (⟨"com/example/passwarden/passwarden/core/ChangeDecision", "getError", "()Lcom/example/passwarden/passwarden/core/PolicyError;"⟩ : MethodName)) hown (mvT hZ (hw _ (List.mem_of_getElem? (i := 35) rfl))) (mvT hZ (hw _ (List.mem_of_getElem? (i := 36) rfl))) (notFace_of_selects (args := #[]) (mvT hZ (hw _ (List.mem_of_getElem? (i := 38) rfl)))) (mvT hZ (hw _ (List.mem_of_getElem? (i := 38) rfl))) (mvT hZ (hw _ (List.mem_of_getElem? (i := 37) rfl))) (by decide) (backOf (W := 0) (own_getErrorR l Z a0 hw [] h0.size a_PASSWORD_TOO_YOUNG _ n0 F_err) hZ (hw _ (List.mem_of_getElem? (i := 39) rfl)) (hw _ (List.mem_of_getElem? (i := 10) rfl)) (by decide) (by decide)) q4a q4c (g := (mkF m 26 #[.val (.int p1), .val (.int (7 : Int32)), .val (.ref a_PASSWORD_TOO_YOUNG), .val (.ref h0.size)] [(.ref h0.size)])) rfl (by rw [hml]; rfl) (Steps.refl _) (argsL := []) (rest := []) (lenOf own_pd3 rfl) rfl (by show 2 * 0 + _ ≤ _; exact Nat.le_of_eq rfl) (hb hby at_26) (fun _ _ => ⟨rfl, e3, (by decide : 1 + 0 ≤ _), (by decide : 5 + 0 ≤ _)⟩)
  dsimp only [Pt.U, Pt.locs, Pt.cells, Pt.slots] at X4 l4 y4 z4 st4 hQ4
  subst l4 y4 z4
  obtain ⟨rfl, N4q, e4⟩ := hQ4
  have N4 := Fr.app N3 N4q
  obtain ⟨cq5, kq5, q5a, q5b, q5c⟩ := isOf hZ e4 E_obj
  obtain ⟨_, _, ⟨T5, L5, k5, n5⟩, -, X5, ⟨Lc5, hQ5, l5, y5, z5⟩, st5⟩ := X4.virtualBack hx (y := (⟨"com/example/passwarden/passwarden/core/ChangeDecision", "getStoredPassword", "()[B"⟩ : MethodName)) (z := (⟨"com/example/passwarden/passwarden/core/ChangeDecision", "getStoredPassword", "()[B"⟩ : MethodName)) hown (mvT hZ (hw _ (List.mem_of_getElem? (i := 40) rfl))) (mvT hZ (hw _ (List.mem_of_getElem? (i := 41) rfl))) (notFace_of_selects (args := #[]) (mvT hZ (hw _ (List.mem_of_getElem? (i := 43) rfl)))) (mvT hZ (hw _ (List.mem_of_getElem? (i := 43) rfl))) (mvT hZ (hw _ (List.mem_of_getElem? (i := 42) rfl))) (by decide) (backOf (W := 0) (own_getStoredPassword l Z a0 hw [] h0.size _ n0 F_pwd) hZ (hw _ (List.mem_of_getElem? (i := 44) rfl)) (hw _ (List.mem_of_getElem? (i := 10) rfl)) (by decide) (by decide)) q5a q5c (g := (mkF m 34 #[.val (.int p1), .val (.int (7 : Int32)), .val (.ref a_PASSWORD_TOO_YOUNG), .val (.ref h0.size)] [(.ref h0.size)])) rfl (by rw [hml]; rfl) (Steps.refl _) (argsL := []) (rest := []) (lenOf own_pd4 rfl) rfl (by show 2 * 0 + _ ≤ _; exact Nat.le_of_eq rfl) (hb hby at_34) (fun _ _ => ⟨rfl, e4, (by decide : 1 + 0 ≤ _), (by decide : 5 + 0 ≤ _)⟩)
  dsimp only [Pt.U, Pt.locs, Pt.cells, Pt.slots] at X5 l5 y5 z5 st5 hQ5
  subst l5 y5 z5
  obtain ⟨rfl, N5q, e5⟩ := hQ5
  have N5 := Fr.app N4 N5q
  obtain ⟨cq6, kq6, q6a, q6b, q6c⟩ := isOf hZ e5 E_obj
  obtain ⟨_, _, ⟨T6, L6, k6, n6⟩, -, X6, ⟨Lc6, hQ6, l6, y6, z6⟩, st6⟩ := X5.virtualBack hx (y := (⟨"com/example/passwarden/passwarden/core/ChangeDecision", "getState", "()Lcom/example/passwarden/passwarden/core/AccountState;"⟩ : MethodName)) (z := (⟨"com/example/passwarden/passwarden/core/ChangeDecision", "getState", "()Lcom/example/passwarden/passwarden/core/AccountState;"⟩ : MethodName)) hown (mvT hZ (hw _ (List.mem_of_getElem? (i := 45) rfl))) (mvT hZ (hw _ (List.mem_of_getElem? (i := 46) rfl))) (notFace_of_selects (args := #[]) (mvT hZ (hw _ (List.mem_of_getElem? (i := 48) rfl)))) (mvT hZ (hw _ (List.mem_of_getElem? (i := 48) rfl))) (mvT hZ (hw _ (List.mem_of_getElem? (i := 47) rfl))) (by decide) (backOf (W := 0) (own_getState l Z a0 hw [] h0.size _ n0 F_sta) hZ (hw _ (List.mem_of_getElem? (i := 49) rfl)) (hw _ (List.mem_of_getElem? (i := 10) rfl)) (by decide) (by decide)) q6a q6c (g := (mkF m 41 #[.val (.int p1), .val (.int (7 : Int32)), .val (.ref a_PASSWORD_TOO_YOUNG), .val (.ref h0.size)] [(.ref h0.size)])) rfl (by rw [hml]; rfl) (Steps.refl _) (argsL := []) (rest := []) (lenOf own_pd5 rfl) rfl (by show 2 * 0 + _ ≤ _; exact Nat.le_of_eq rfl) (hb hby at_41) (fun _ _ => ⟨rfl, e5, (by decide : 1 + 0 ≤ _), (by decide : 5 + 0 ≤ _)⟩)
  dsimp only [Pt.U, Pt.locs, Pt.cells, Pt.slots] at X6 l6 y6 z6 st6 hQ6
  subst l6 y6 z6
  obtain ⟨rfl, N6q, e6⟩ := hQ6
  have N6 := Fr.app N5 N6q
  obtain ⟨cq7, kq7, q7a, q7b, q7c⟩ := isOf hZ e6 E_obj
  obtain ⟨_, _, ⟨T7, L7, k7, n7⟩, -, X7, ⟨Lc7, hQ7, l7, y7, z7⟩, st7⟩ := X6.virtualBack hx (y := (⟨"com/example/passwarden/passwarden/core/ChangeDecision", "getHistory", "()Lcom/example/passwarden/passwarden/core/PasswordHistory;"⟩ : MethodName)) (z := (⟨"com/example/passwarden/passwarden/core/ChangeDecision", "getHistory", "()Lcom/example/passwarden/passwarden/core/PasswordHistory;"⟩ : MethodName)) hown (mvT hZ (hw _ (List.mem_of_getElem? (i := 50) rfl))) (mvT hZ (hw _ (List.mem_of_getElem? (i := 51) rfl))) (notFace_of_selects (args := #[]) (mvT hZ (hw _ (List.mem_of_getElem? (i := 53) rfl)))) (mvT hZ (hw _ (List.mem_of_getElem? (i := 53) rfl))) (mvT hZ (hw _ (List.mem_of_getElem? (i := 52) rfl))) (by decide) (backOf (W := 0) (own_getHistory l Z a0 hw [] h0.size _ n0 F_his) hZ (hw _ (List.mem_of_getElem? (i := 54) rfl)) (hw _ (List.mem_of_getElem? (i := 10) rfl)) (by decide) (by decide)) q7a q7c (g := (mkF m 48 #[.val (.int p1), .val (.int (7 : Int32)), .val (.ref a_PASSWORD_TOO_YOUNG), .val (.ref h0.size)] [(.ref h0.size)])) rfl (by rw [hml]; rfl) (Steps.refl _) (argsL := []) (rest := []) (lenOf own_pd6 rfl) rfl (by show 2 * 0 + _ ≤ _; exact Nat.le_of_eq rfl) (hb hby at_48) (fun _ _ => ⟨rfl, e6, (by decide : 1 + 0 ≤ _), (by decide : 5 + 0 ≤ _)⟩)
  dsimp only [Pt.U, Pt.locs, Pt.cells, Pt.slots] at X7 l7 y7 z7 st7 hQ7
  subst l7 y7 z7
  obtain ⟨rfl, N7q, e7⟩ := hQ7
  have N7 := Fr.app N6 N7q
  obtain ⟨fs, hr, hrun, hended, hW, hsame⟩ := X7.leave (v := some (.int (1 : Int32))) (fun h => by rw [Bd.returns] at h; cases h)
  refine ⟨_, _, pre0 _ ?_, hrun, hended, _, _, rfl, ?_, ⟨_, rfl⟩, hW, hsame.mono (by decide) (by decide)⟩
  · show Steps p.tables e below (s₁.setTop (mkF m 0 #[.val (.int p1), .unset, .unset, .unset] [])) _
    refine XS.iloadN X0.here hx rfl (hb hby at_0) rfl ?_
    show Steps p.tables e below (s₁.setTop (mkF m 1 #[.val (.int p1), .unset, .unset, .unset] [(.int p1)])) _
    refine X0.ldcInt hx hown (mvT hZ (hw _ (List.mem_of_getElem? (i := 0) rfl))) (g := (mkF m 1 #[.val (.int p1), .unset, .unset, .unset] [(.int p1)])) rfl (hb hby at_1) _ ?_
    show Steps p.tables e below (s₁.setTop (mkF m 3 #[.val (.int p1), .unset, .unset, .unset] [(.int (2147483647 : Int32)), (.int p1)])) _
    refine XS.iand X0.here hx rfl (hb hby at_3) rfl ?_
    show Steps p.tables e below (s₁.setTop (mkF m 4 #[.val (.int p1), .unset, .unset, .unset] [(.int (p1 &&& (2147483647 : Int32)))])) _
    refine XS.bipush X0.here hx rfl (hb hby at_4) ?_
    show Steps p.tables e below (s₁.setTop (mkF m 6 #[.val (.int p1), .unset, .unset, .unset] [(.int (10 : Int32)), (.int (p1 &&& (2147483647 : Int32)))])) _
    refine iremM (g := (mkF m 6 #[.val (.int p1), .unset, .unset, .unset] [(.int (10 : Int32)), (.int (p1 &&& (2147483647 : Int32)))])) X0 hx rfl (hb hby at_6) rfl (by decide) ?_
    show Steps p.tables e below (s₁.setTop (mkF m 7 #[.val (.int p1), .unset, .unset, .unset] [(.int ((p1 &&& (2147483647 : Int32)) % (10 : Int32)))])) _
    rewrite [hi]
    show Steps p.tables e below (s₁.setTop (mkF m 7 #[.val (.int p1), .unset, .unset, .unset] [(.int (7 : Int32))])) _
    refine XS.istoreN X0.here hx rfl (hb hby at_7) rfl (l' := #[.val (.int p1), .val (.int (7 : Int32)), .unset, .unset]) rfl ?_
    show Steps p.tables e below (s₁.setTop (mkF m 8 #[.val (.int p1), .val (.int (7 : Int32)), .unset, .unset] [])) _
    refine XS.iloadN X0.here hx rfl (hb hby at_8) rfl ?_
    show Steps p.tables e below (s₁.setTop (mkF m 9 #[.val (.int p1), .val (.int (7 : Int32)), .unset, .unset] [(.int (7 : Int32))])) _
    refine st1 _ ?_
    show Steps p.tables e below (T1.setTop (mkF m 12 #[.val (.int p1), .val (.int (7 : Int32)), .unset, .unset] [(.ref a_PASSWORD_TOO_YOUNG)])) _
    refine XS.astoreN X1.here hx rfl (hb hby at_12) rfl rfl (l' := #[.val (.int p1), .val (.int (7 : Int32)), .val (.ref a_PASSWORD_TOO_YOUNG), .unset]) rfl ?_
    show Steps p.tables e below (T1.setTop (mkF m 13 #[.val (.int p1), .val (.int (7 : Int32)), .val (.ref a_PASSWORD_TOO_YOUNG), .unset] [])) _
    refine XS.aloadN X1.here hx rfl (hb hby at_13) rfl rfl ?_
    show Steps p.tables e below (T1.setTop (mkF m 14 #[.val (.int p1), .val (.int (7 : Int32)), .val (.ref a_PASSWORD_TOO_YOUNG), .unset] [(.ref a_PASSWORD_TOO_YOUNG)])) _
    refine st2 _ ?_
    show Steps p.tables e below (T2.setTop (mkF m 17 #[.val (.int p1), .val (.int (7 : Int32)), .val (.ref a_PASSWORD_TOO_YOUNG), .unset] [(.ref h0.size)])) _
    refine XS.astoreN X2.here hx rfl (hb hby at_17) rfl rfl (l' := #[.val (.int p1), .val (.int (7 : Int32)), .val (.ref a_PASSWORD_TOO_YOUNG), .val (.ref h0.size)]) rfl ?_
    show Steps p.tables e below (T2.setTop (mkF m 18 #[.val (.int p1), .val (.int (7 : Int32)), .val (.ref a_PASSWORD_TOO_YOUNG), .val (.ref h0.size)] [])) _
    refine XS.aloadN X2.here hx rfl (hb hby at_18) rfl rfl ?_
    show Steps p.tables e below (T2.setTop (mkF m 19 #[.val (.int p1), .val (.int (7 : Int32)), .val (.ref a_PASSWORD_TOO_YOUNG), .val (.ref h0.size)] [(.ref h0.size)])) _
    refine st3.trans ?_
    show Steps p.tables e below (T3.setTop (mkF m 22 #[.val (.int p1), .val (.int (7 : Int32)), .val (.ref a_PASSWORD_TOO_YOUNG), .val (.ref h0.size)] [(.int (0 : Int32))])) _
    refine XS.ifNo X3.here hx rfl (hb hby at_22) rfl (by decide) ?_
    show Steps p.tables e below (T3.setTop (mkF m 25 #[.val (.int p1), .val (.int (7 : Int32)), .val (.ref a_PASSWORD_TOO_YOUNG), .val (.ref h0.size)] [])) _
    refine XS.aloadN X3.here hx rfl (hb hby at_25) rfl rfl ?_
    show Steps p.tables e below (T3.setTop (mkF m 26 #[.val (.int p1), .val (.int (7 : Int32)), .val (.ref a_PASSWORD_TOO_YOUNG), .val (.ref h0.size)] [(.ref h0.size)])) _
    refine st4.trans ?_
    show Steps p.tables e below (T4.setTop (mkF m 29 #[.val (.int p1), .val (.int (7 : Int32)), .val (.ref a_PASSWORD_TOO_YOUNG), .val (.ref h0.size)] [(.ref a_PASSWORD_TOO_YOUNG)])) _
    refine XS.aloadN X4.here hx rfl (hb hby at_29) rfl rfl ?_
    show Steps p.tables e below (T4.setTop (mkF m 30 #[.val (.int p1), .val (.int (7 : Int32)), .val (.ref a_PASSWORD_TOO_YOUNG), .val (.ref h0.size)] [(.ref a_PASSWORD_TOO_YOUNG), (.ref a_PASSWORD_TOO_YOUNG)])) _
    refine Jvm.RoadKit.acmp (g := (mkF m 30 #[.val (.int p1), .val (.int (7 : Int32)), .val (.ref a_PASSWORD_TOO_YOUNG), .val (.ref h0.size)] [(.ref a_PASSWORD_TOO_YOUNG), (.ref a_PASSWORD_TOO_YOUNG)])) X4 hx rfl rfl rfl (pc0 := 30) (pc' := 33) (same := true) rfl (hb hby at_30) rfl (decide_eq_true rfl) (by decide) (by decide) ?_
    show Steps p.tables e below (T4.setTop (mkF m 33 #[.val (.int p1), .val (.int (7 : Int32)), .val (.ref a_PASSWORD_TOO_YOUNG), .val (.ref h0.size)] [])) _
    refine XS.aloadN X4.here hx rfl (hb hby at_33) rfl rfl ?_
    show Steps p.tables e below (T4.setTop (mkF m 34 #[.val (.int p1), .val (.int (7 : Int32)), .val (.ref a_PASSWORD_TOO_YOUNG), .val (.ref h0.size)] [(.ref h0.size)])) _
    refine st5.trans ?_
    show Steps p.tables e below (T5.setTop (mkF m 37 #[.val (.int p1), .val (.int (7 : Int32)), .val (.ref a_PASSWORD_TOO_YOUNG), .val (.ref h0.size)] [.null])) _
    refine XS.ifnonnullNo X5.here hx rfl (hb hby at_37) rfl ?_
    show Steps p.tables e below (T5.setTop (mkF m 40 #[.val (.int p1), .val (.int (7 : Int32)), .val (.ref a_PASSWORD_TOO_YOUNG), .val (.ref h0.size)] [])) _
    refine XS.aloadN X5.here hx rfl (hb hby at_40) rfl rfl ?_
    show Steps p.tables e below (T5.setTop (mkF m 41 #[.val (.int p1), .val (.int (7 : Int32)), .val (.ref a_PASSWORD_TOO_YOUNG), .val (.ref h0.size)] [(.ref h0.size)])) _
    refine st6.trans ?_
    show Steps p.tables e below (T6.setTop (mkF m 44 #[.val (.int p1), .val (.int (7 : Int32)), .val (.ref a_PASSWORD_TOO_YOUNG), .val (.ref h0.size)] [.null])) _
    refine XS.ifnonnullNo X6.here hx rfl (hb hby at_44) rfl ?_
    show Steps p.tables e below (T6.setTop (mkF m 47 #[.val (.int p1), .val (.int (7 : Int32)), .val (.ref a_PASSWORD_TOO_YOUNG), .val (.ref h0.size)] [])) _
    refine XS.aloadN X6.here hx rfl (hb hby at_47) rfl rfl ?_
    show Steps p.tables e below (T6.setTop (mkF m 48 #[.val (.int p1), .val (.int (7 : Int32)), .val (.ref a_PASSWORD_TOO_YOUNG), .val (.ref h0.size)] [(.ref h0.size)])) _
    refine st7.trans ?_
    show Steps p.tables e below (T7.setTop (mkF m 51 #[.val (.int p1), .val (.int (7 : Int32)), .val (.ref a_PASSWORD_TOO_YOUNG), .val (.ref h0.size)] [.null])) _
    refine XS.ifnonnullNo X7.here hx rfl (hb hby at_51) rfl ?_
    show Steps p.tables e below (T7.setTop (mkF m 54 #[.val (.int p1), .val (.int (7 : Int32)), .val (.ref a_PASSWORD_TOO_YOUNG), .val (.ref h0.size)] [])) _
    refine XS.iconst X7.here hx rfl (hb hby at_54) ?_
    show Steps p.tables e below (T7.setTop (mkF m 55 #[.val (.int p1), .val (.int (7 : Int32)), .val (.ref a_PASSWORD_TOO_YOUNG), .val (.ref h0.size)] [(.int (1 : Int32))])) _
    refine XS.goto X7.here hx rfl (pc0 := 55) (pc' := 59) rfl (hb hby at_55) (by decide) (by decide) ?_
    show Steps p.tables e below (T7.setTop (mkF m 59 #[.val (.int p1), .val (.int (7 : Int32)), .val (.ref a_PASSWORD_TOO_YOUNG), .val (.ref h0.size)] [(.int (1 : Int32))])) _
    exact retN X7 hx (t := .boolean) Bd.returns (by simp) (hb hby at_59) hr
  · show own_QL _ n0 _ T7.heap _
    exact ⟨rfl, N7⟩
set_option maxRecDepth 65536 in
set_option maxHeartbeats 40000000 in
theorem own_law_8 (l : Launch) (Z : State) (a0 : Array Value) (hw : ∀ d ∈ tables_1, d.before a0 Z = true) (ws : List Jvm.Cond) (a_PASSWORD_EXPIRED a_PASSWORD_MOD_NOT_ALLOWED a_ACCOUNT_LOCKED a_MUST_SUPPLY_OLD_PASSWORD a_PASSWORD_TOO_YOUNG a_CHANGE_AFTER_RESET a_PASSWORD_IN_HISTORY a_INSUFFICIENT_PASSWORD_QUALITY a_PASSWORD_TOO_SHORT : Addr) (p1 : Int32) (h0 : Heap) (n0 : Nat) (hp : own_Pin Z h0 a_PASSWORD_EXPIRED a_PASSWORD_MOD_NOT_ALLOWED a_ACCOUNT_LOCKED a_MUST_SUPPLY_OLD_PASSWORD a_PASSWORD_TOO_YOUNG a_CHANGE_AFTER_RESET a_PASSWORD_IN_HISTORY a_INSUFFICIENT_PASSWORD_QUALITY a_PASSWORD_TOO_SHORT) (Z0 : n0 ≤ h0.size) (hi : ((p1 &&& (2147483647 : Int32)) % (10 : Int32)) = (8 : Int32)) :
    MetFree l x (head1 (Jvm.Cond.code x code maxLocals ret :: ws) room_1) (fun a U => a = #[(.int p1)] ∧ Z.Warmed39 U.vm ∧ U.heap = h0) (fun _ _ _ _ _ => True) (fun _ U o U' => ∃ v L, o = .returned v ∧ own_QL (.int (1 : Int32)) n0 v U'.heap L ∧ FrameEnd U o U' L room_1.cells room_1.slots) := by
  have hp' := hp
  obtain ⟨S_PASSWORD_EXPIRED, S_PASSWORD_MOD_NOT_ALLOWED, S_ACCOUNT_LOCKED, S_MUST_SUPPLY_OLD_PASSWORD, S_PASSWORD_TOO_YOUNG, S_CHANGE_AFTER_RESET, S_PASSWORD_IN_HISTORY, S_INSUFFICIENT_PASSWORD_QUALITY, S_PASSWORD_TOO_SHORT, E_PASSWORD_EXPIRED, E_PASSWORD_MOD_NOT_ALLOWED, E_ACCOUNT_LOCKED, E_MUST_SUPPLY_OLD_PASSWORD, E_PASSWORD_TOO_YOUNG, E_CHANGE_AFTER_RESET, E_PASSWORD_IN_HISTORY, E_INSUFFICIENT_PASSWORD_QUALITY, E_PASSWORD_TOO_SHORT⟩ := hp'
  refine MetFree.of_bodySF (plainFor_of_name own_pn1) hisR ?_
  intro p e s m args below meth c s₁ Bd hml0 hP hK
  obtain ⟨rfl, hZ, hh⟩ := hP
  have hx := Bd.exec
  have hby := Bd.bytes
  have hml : c.maxLocals = 4 := hml0
  have hown : s.vm.findClass "com/example/passwarden/passwarden/core/ChangeDecisionRefusedPinLaw" = some m.cls := findClass_of_methodNamed Bd.named
  have X0 : Stand p l e room_1 s m #[(.int p1)] below meth c s₁ [] 0 0 := Stand.of_body Bd
  have e0 : s₁.heap = h0 := by rw [← hh, Bd.state]; rfl
  have N0 := Fr.nil n0
  have pre0 : ∀ t, Steps p.tables e below (s₁.setTop (mkF m 0 #[.val (.int p1), .unset, .unset, .unset] [])) t → Steps p.tables e below (s₁.setTop (entryFrame m #[(.int p1)] maxLocals)) t := fun t k => castTop (by first | (simp [entryFrame, mkF, argsToLocals, Value.category, maxLocals]; done) | rfl) k
  obtain ⟨_, _, ⟨T1, L1, k1, n1⟩, -, X1, ⟨Lc1, hQ1, l1, y1, z1⟩, st1⟩ := Jvm.LawKit.callS X0 hx (y := (⟨"com/example/passwarden/passwarden/core/ChangeDecisionRefusedPinLaw", "pick", "(I)Lcom/example/passwarden/passwarden/core/PolicyError;"⟩ : MethodName)) hown (mvT hZ (hw _ (List.mem_of_getElem? (i := 1) rfl))) (mvT hZ (hw _ (List.mem_of_getElem? (i := 2) rfl))) (mvT hZ (hw _ (List.mem_of_getElem? (i := 3) rfl))) (mvT hZ (hw _ (List.mem_of_getElem? (i := 4) rfl))) (by decide) (backOf (W := 0) (own_b1_8 l Z a0 hw [] a_PASSWORD_EXPIRED a_PASSWORD_MOD_NOT_ALLOWED a_ACCOUNT_LOCKED a_MUST_SUPPLY_OLD_PASSWORD a_PASSWORD_TOO_YOUNG a_CHANGE_AFTER_RESET a_PASSWORD_IN_HISTORY a_INSUFFICIENT_PASSWORD_QUALITY a_PASSWORD_TOO_SHORT  h0 n0 hp) hZ (hw _ (List.mem_of_getElem? (i := 4) rfl)) (hw _ (List.mem_of_getElem? (i := 3) rfl)) (by decide) (by decide)) (g := (mkF m 9 #[.val (.int p1), .val (.int (8 : Int32)), .unset, .unset] [(.int (8 : Int32))])) rfl (by rw [hml]; rfl) (argsL := [(.int (8 : Int32))]) (rest := []) (lenOf own_pd0 rfl) rfl (by show 2 * 0 + _ ≤ _; exact Nat.le_of_eq rfl) (hb hby at_9) (fun _ _ => ⟨rfl, e0, (by decide : 0 + 0 ≤ _), (by decide : 0 + 0 ≤ _)⟩)
  dsimp only [Pt.U, Pt.locs, Pt.cells, Pt.slots] at X1 l1 y1 z1 st1 hQ1
  subst l1 y1 z1
  obtain ⟨rfl, N1q, e1⟩ := hQ1
  have N1 := Fr.app N0 N1q
  obtain ⟨_, _, ⟨T2, L2, k2, n2⟩, -, X2, ⟨Lc2, hQ2, l2, y2, z2⟩, st2⟩ := Jvm.LawKit.callS X1 hx (y := (⟨"com/example/passwarden/passwarden/core/ChangeDecision", "refused", "(Lcom/example/passwarden/passwarden/core/PolicyError;)Lcom/example/passwarden/passwarden/core/ChangeDecision;"⟩ : MethodName)) hown (mvT hZ (hw _ (List.mem_of_getElem? (i := 8) rfl))) (mvT hZ (hw _ (List.mem_of_getElem? (i := 9) rfl))) (mvT hZ (hw _ (List.mem_of_getElem? (i := 10) rfl))) (mvT hZ (hw _ (List.mem_of_getElem? (i := 11) rfl))) (by decide) (backOf (W := 0) (own_refR l Z a0 hw [] a_PASSWORD_IN_HISTORY h0 n0 Z0) hZ (hw _ (List.mem_of_getElem? (i := 11) rfl)) (hw _ (List.mem_of_getElem? (i := 10) rfl)) (by decide) (by decide)) (g := (mkF m 14 #[.val (.int p1), .val (.int (8 : Int32)), .val (.ref a_PASSWORD_IN_HISTORY), .unset] [(.ref a_PASSWORD_IN_HISTORY)])) rfl (by rw [hml]; rfl) (argsL := [(.ref a_PASSWORD_IN_HISTORY)]) (rest := []) (lenOf own_pd1 rfl) rfl (by show 2 * 0 + _ ≤ _; exact Nat.le_of_eq rfl) (hb hby at_14) (fun _ _ => ⟨rfl, e1, (by decide : 0 + 1 ≤ _), (by decide : 0 + 5 ≤ _)⟩)
  dsimp only [Pt.U, Pt.locs, Pt.cells, Pt.slots] at X2 l2 y2 z2 st2 hQ2
  subst l2 y2 z2
  obtain ⟨rfl, N2q, E_obj, F_acc, F_err, F_pwd, F_sta, F_his⟩ := hQ2
  have e2 : T2.heap = T2.heap := rfl
  have N2 := Fr.app N1 N2q
  obtain ⟨cq3, kq3, q3a, q3b, q3c⟩ := isOf hZ e2 E_obj
  obtain ⟨_, _, ⟨T3, L3, k3, n3⟩, -, X3, ⟨Lc3, hQ3, l3, y3, z3⟩, st3⟩ := X2.virtualBack hx (y := (⟨"com/example/passwarden/passwarden/core/ChangeDecision", "isAccepted", "()Z"⟩ : MethodName)) (z := (⟨"com/example/passwarden/passwarden/core/ChangeDecision", "isAccepted", "()Z"⟩ : MethodName)) hown (mvT hZ (hw _ (List.mem_of_getElem? (i := 30) rfl))) (mvT hZ (hw _ (List.mem_of_getElem? (i := 31) rfl))) (notFace_of_selects (args := #[]) (mvT hZ (hw _ (List.mem_of_getElem? (i := 33) rfl)))) (mvT hZ (hw _ (List.mem_of_getElem? (i := 33) rfl))) (mvT hZ (hw _ (List.mem_of_getElem? (i := 32) rfl))) (by decide) (backOf (W := 0) (own_isAccepted l Z a0 hw [] h0.size _ n0 F_acc) hZ (hw _ (List.mem_of_getElem? (i := 34) rfl)) (hw _ (List.mem_of_getElem? (i := 10) rfl)) (by decide) (by decide)) q3a q3c (g := (mkF m 19 #[.val (.int p1), .val (.int (8 : Int32)), .val (.ref a_PASSWORD_IN_HISTORY), .val (.ref h0.size)] [(.ref h0.size)])) rfl (by rw [hml]; rfl) (Steps.refl _) (argsL := []) (rest := []) (lenOf own_pd2 rfl) rfl (by show 2 * 0 + _ ≤ _; exact Nat.le_of_eq rfl) (hb hby at_19) (fun _ _ => ⟨rfl, e2, (by decide : 1 + 0 ≤ _), (by decide : 5 + 0 ≤ _)⟩)
  dsimp only [Pt.U, Pt.locs, Pt.cells, Pt.slots] at X3 l3 y3 z3 st3 hQ3
  subst l3 y3 z3
  obtain ⟨rfl, N3q, e3⟩ := hQ3
  have N3 := Fr.app N2 N3q
  obtain ⟨cq4, kq4, q4a, q4b, q4c⟩ := isOf hZ e3 E_obj
  obtain ⟨_, _, ⟨T4, L4, k4, n4⟩, -, X4, ⟨Lc4, hQ4, l4, y4, z4⟩, st4⟩ := X3.virtualBack hx (y := (⟨"com/example/passwarden/passwarden/core/ChangeDecision", "getError", "()Lcom/example/passwarden/passwarden/core/PolicyError;"⟩ : MethodName)) (z := (⟨"com/example/passwarden/passwarden/core/ChangeDecision", "getError", "()Lcom/example/passwarden/passwarden/core/PolicyError;"⟩ : MethodName)) hown (mvT hZ (hw _ (List.mem_of_getElem? (i := 35) rfl))) (mvT hZ (hw _ (List.mem_of_getElem? (i := 36) rfl))) (notFace_of_selects (args := #[]) (mvT hZ (hw _ (List.mem_of_getElem? (i := 38) rfl)))) (mvT hZ (hw _ (List.mem_of_getElem? (i := 38) rfl))) (mvT hZ (hw _ (List.mem_of_getElem? (i := 37) rfl))) (by decide) (backOf (W := 0) (own_getErrorR l Z a0 hw [] h0.size a_PASSWORD_IN_HISTORY _ n0 F_err) hZ (hw _ (List.mem_of_getElem? (i := 39) rfl)) (hw _ (List.mem_of_getElem? (i := 10) rfl)) (by decide) (by decide)) q4a q4c (g := (mkF m 26 #[.val (.int p1), .val (.int (8 : Int32)), .val (.ref a_PASSWORD_IN_HISTORY), .val (.ref h0.size)] [(.ref h0.size)])) rfl (by rw [hml]; rfl) (Steps.refl _) (argsL := []) (rest := []) (lenOf own_pd3 rfl) rfl (by show 2 * 0 + _ ≤ _; exact Nat.le_of_eq rfl) (hb hby at_26) (fun _ _ => ⟨rfl, e3, (by decide : 1 + 0 ≤ _), (by decide : 5 + 0 ≤ _)⟩)
  dsimp only [Pt.U, Pt.locs, Pt.cells, Pt.slots] at X4 l4 y4 z4 st4 hQ4
  subst l4 y4 z4
  obtain ⟨rfl, N4q, e4⟩ := hQ4
  have N4 := Fr.app N3 N4q
  obtain ⟨cq5, kq5, q5a, q5b, q5c⟩ := isOf hZ e4 E_obj
  obtain ⟨_, _, ⟨T5, L5, k5, n5⟩, -, X5, ⟨Lc5, hQ5, l5, y5, z5⟩, st5⟩ := X4.virtualBack hx (y := (⟨"com/example/passwarden/passwarden/core/ChangeDecision", "getStoredPassword", "()[B"⟩ : MethodName)) (z := (⟨"com/example/passwarden/passwarden/core/ChangeDecision", "getStoredPassword", "()[B"⟩ : MethodName)) hown (mvT hZ (hw _ (List.mem_of_getElem? (i := 40) rfl))) (mvT hZ (hw _ (List.mem_of_getElem? (i := 41) rfl))) (notFace_of_selects (args := #[]) (mvT hZ (hw _ (List.mem_of_getElem? (i := 43) rfl)))) (mvT hZ (hw _ (List.mem_of_getElem? (i := 43) rfl))) (mvT hZ (hw _ (List.mem_of_getElem? (i := 42) rfl))) (by decide) (backOf (W := 0) (own_getStoredPassword l Z a0 hw [] h0.size _ n0 F_pwd) hZ (hw _ (List.mem_of_getElem? (i := 44) rfl)) (hw _ (List.mem_of_getElem? (i := 10) rfl)) (by decide) (by decide)) q5a q5c (g := (mkF m 34 #[.val (.int p1), .val (.int (8 : Int32)), .val (.ref a_PASSWORD_IN_HISTORY), .val (.ref h0.size)] [(.ref h0.size)])) rfl (by rw [hml]; rfl) (Steps.refl _) (argsL := []) (rest := []) (lenOf own_pd4 rfl) rfl (by show 2 * 0 + _ ≤ _; exact Nat.le_of_eq rfl) (hb hby at_34) (fun _ _ => ⟨rfl, e4, (by decide : 1 + 0 ≤ _), (by decide : 5 + 0 ≤ _)⟩)
  dsimp only [Pt.U, Pt.locs, Pt.cells, Pt.slots] at X5 l5 y5 z5 st5 hQ5
  subst l5 y5 z5
  obtain ⟨rfl, N5q, e5⟩ := hQ5
  have N5 := Fr.app N4 N5q
  obtain ⟨cq6, kq6, q6a, q6b, q6c⟩ := isOf hZ e5 E_obj
  obtain ⟨_, _, ⟨T6, L6, k6, n6⟩, -, X6, ⟨Lc6, hQ6, l6, y6, z6⟩, st6⟩ := X5.virtualBack hx (y := (⟨"com/example/passwarden/passwarden/core/ChangeDecision", "getState", "()Lcom/example/passwarden/passwarden/core/AccountState;"⟩ : MethodName)) (z := (⟨"com/example/passwarden/passwarden/core/ChangeDecision", "getState", "()Lcom/example/passwarden/passwarden/core/AccountState;"⟩ : MethodName)) hown (mvT hZ (hw _ (List.mem_of_getElem? (i := 45) rfl))) (mvT hZ (hw _ (List.mem_of_getElem? (i := 46) rfl))) (notFace_of_selects (args := #[]) (mvT hZ (hw _ (List.mem_of_getElem? (i := 48) rfl)))) (mvT hZ (hw _ (List.mem_of_getElem? (i := 48) rfl))) (mvT hZ (hw _ (List.mem_of_getElem? (i := 47) rfl))) (by decide) (backOf (W := 0) (own_getState l Z a0 hw [] h0.size _ n0 F_sta) hZ (hw _ (List.mem_of_getElem? (i := 49) rfl)) (hw _ (List.mem_of_getElem? (i := 10) rfl)) (by decide) (by decide)) q6a q6c (g := (mkF m 41 #[.val (.int p1), .val (.int (8 : Int32)), .val (.ref a_PASSWORD_IN_HISTORY), .val (.ref h0.size)] [(.ref h0.size)])) rfl (by rw [hml]; rfl) (Steps.refl _) (argsL := []) (rest := []) (lenOf own_pd5 rfl) rfl (by show 2 * 0 + _ ≤ _; exact Nat.le_of_eq rfl) (hb hby at_41) (fun _ _ => ⟨rfl, e5, (by decide : 1 + 0 ≤ _), (by decide : 5 + 0 ≤ _)⟩)
  dsimp only [Pt.U, Pt.locs, Pt.cells, Pt.slots] at X6 l6 y6 z6 st6 hQ6
  subst l6 y6 z6
  obtain ⟨rfl, N6q, e6⟩ := hQ6
  have N6 := Fr.app N5 N6q
  obtain ⟨cq7, kq7, q7a, q7b, q7c⟩ := isOf hZ e6 E_obj
  obtain ⟨_, _, ⟨T7, L7, k7, n7⟩, -, X7, ⟨Lc7, hQ7, l7, y7, z7⟩, st7⟩ := X6.virtualBack hx (y := (⟨"com/example/passwarden/passwarden/core/ChangeDecision", "getHistory", "()Lcom/example/passwarden/passwarden/core/PasswordHistory;"⟩ : MethodName)) (z := (⟨"com/example/passwarden/passwarden/core/ChangeDecision", "getHistory", "()Lcom/example/passwarden/passwarden/core/PasswordHistory;"⟩ : MethodName)) hown (mvT hZ (hw _ (List.mem_of_getElem? (i := 50) rfl))) (mvT hZ (hw _ (List.mem_of_getElem? (i := 51) rfl))) (notFace_of_selects (args := #[]) (mvT hZ (hw _ (List.mem_of_getElem? (i := 53) rfl)))) (mvT hZ (hw _ (List.mem_of_getElem? (i := 53) rfl))) (mvT hZ (hw _ (List.mem_of_getElem? (i := 52) rfl))) (by decide) (backOf (W := 0) (own_getHistory l Z a0 hw [] h0.size _ n0 F_his) hZ (hw _ (List.mem_of_getElem? (i := 54) rfl)) (hw _ (List.mem_of_getElem? (i := 10) rfl)) (by decide) (by decide)) q7a q7c (g := (mkF m 48 #[.val (.int p1), .val (.int (8 : Int32)), .val (.ref a_PASSWORD_IN_HISTORY), .val (.ref h0.size)] [(.ref h0.size)])) rfl (by rw [hml]; rfl) (Steps.refl _) (argsL := []) (rest := []) (lenOf own_pd6 rfl) rfl (by show 2 * 0 + _ ≤ _; exact Nat.le_of_eq rfl) (hb hby at_48) (fun _ _ => ⟨rfl, e6, (by decide : 1 + 0 ≤ _), (by decide : 5 + 0 ≤ _)⟩)
  dsimp only [Pt.U, Pt.locs, Pt.cells, Pt.slots] at X7 l7 y7 z7 st7 hQ7
  subst l7 y7 z7
  obtain ⟨rfl, N7q, e7⟩ := hQ7
  have N7 := Fr.app N6 N7q
  obtain ⟨fs, hr, hrun, hended, hW, hsame⟩ := X7.leave (v := some (.int (1 : Int32))) (fun h => by rw [Bd.returns] at h; cases h)
  refine ⟨_, _, pre0 _ ?_, hrun, hended, _, _, rfl, ?_, ⟨_, rfl⟩, hW, hsame.mono (by decide) (by decide)⟩
  · show Steps p.tables e below (s₁.setTop (mkF m 0 #[.val (.int p1), .unset, .unset, .unset] [])) _
    refine XS.iloadN X0.here hx rfl (hb hby at_0) rfl ?_
    show Steps p.tables e below (s₁.setTop (mkF m 1 #[.val (.int p1), .unset, .unset, .unset] [(.int p1)])) _
    refine X0.ldcInt hx hown (mvT hZ (hw _ (List.mem_of_getElem? (i := 0) rfl))) (g := (mkF m 1 #[.val (.int p1), .unset, .unset, .unset] [(.int p1)])) rfl (hb hby at_1) _ ?_
    show Steps p.tables e below (s₁.setTop (mkF m 3 #[.val (.int p1), .unset, .unset, .unset] [(.int (2147483647 : Int32)), (.int p1)])) _
    refine XS.iand X0.here hx rfl (hb hby at_3) rfl ?_
    show Steps p.tables e below (s₁.setTop (mkF m 4 #[.val (.int p1), .unset, .unset, .unset] [(.int (p1 &&& (2147483647 : Int32)))])) _
    refine XS.bipush X0.here hx rfl (hb hby at_4) ?_
    show Steps p.tables e below (s₁.setTop (mkF m 6 #[.val (.int p1), .unset, .unset, .unset] [(.int (10 : Int32)), (.int (p1 &&& (2147483647 : Int32)))])) _
    refine iremM (g := (mkF m 6 #[.val (.int p1), .unset, .unset, .unset] [(.int (10 : Int32)), (.int (p1 &&& (2147483647 : Int32)))])) X0 hx rfl (hb hby at_6) rfl (by decide) ?_
    show Steps p.tables e below (s₁.setTop (mkF m 7 #[.val (.int p1), .unset, .unset, .unset] [(.int ((p1 &&& (2147483647 : Int32)) % (10 : Int32)))])) _
    rewrite [hi]
    show Steps p.tables e below (s₁.setTop (mkF m 7 #[.val (.int p1), .unset, .unset, .unset] [(.int (8 : Int32))])) _
    refine XS.istoreN X0.here hx rfl (hb hby at_7) rfl (l' := #[.val (.int p1), .val (.int (8 : Int32)), .unset, .unset]) rfl ?_
    show Steps p.tables e below (s₁.setTop (mkF m 8 #[.val (.int p1), .val (.int (8 : Int32)), .unset, .unset] [])) _
    refine XS.iloadN X0.here hx rfl (hb hby at_8) rfl ?_
    show Steps p.tables e below (s₁.setTop (mkF m 9 #[.val (.int p1), .val (.int (8 : Int32)), .unset, .unset] [(.int (8 : Int32))])) _
    refine st1 _ ?_
    show Steps p.tables e below (T1.setTop (mkF m 12 #[.val (.int p1), .val (.int (8 : Int32)), .unset, .unset] [(.ref a_PASSWORD_IN_HISTORY)])) _
    refine XS.astoreN X1.here hx rfl (hb hby at_12) rfl rfl (l' := #[.val (.int p1), .val (.int (8 : Int32)), .val (.ref a_PASSWORD_IN_HISTORY), .unset]) rfl ?_
    show Steps p.tables e below (T1.setTop (mkF m 13 #[.val (.int p1), .val (.int (8 : Int32)), .val (.ref a_PASSWORD_IN_HISTORY), .unset] [])) _
    refine XS.aloadN X1.here hx rfl (hb hby at_13) rfl rfl ?_
    show Steps p.tables e below (T1.setTop (mkF m 14 #[.val (.int p1), .val (.int (8 : Int32)), .val (.ref a_PASSWORD_IN_HISTORY), .unset] [(.ref a_PASSWORD_IN_HISTORY)])) _
    refine st2 _ ?_
    show Steps p.tables e below (T2.setTop (mkF m 17 #[.val (.int p1), .val (.int (8 : Int32)), .val (.ref a_PASSWORD_IN_HISTORY), .unset] [(.ref h0.size)])) _
    refine XS.astoreN X2.here hx rfl (hb hby at_17) rfl rfl (l' := #[.val (.int p1), .val (.int (8 : Int32)), .val (.ref a_PASSWORD_IN_HISTORY), .val (.ref h0.size)]) rfl ?_
    show Steps p.tables e below (T2.setTop (mkF m 18 #[.val (.int p1), .val (.int (8 : Int32)), .val (.ref a_PASSWORD_IN_HISTORY), .val (.ref h0.size)] [])) _
    refine XS.aloadN X2.here hx rfl (hb hby at_18) rfl rfl ?_
    show Steps p.tables e below (T2.setTop (mkF m 19 #[.val (.int p1), .val (.int (8 : Int32)), .val (.ref a_PASSWORD_IN_HISTORY), .val (.ref h0.size)] [(.ref h0.size)])) _
    refine st3.trans ?_
    show Steps p.tables e below (T3.setTop (mkF m 22 #[.val (.int p1), .val (.int (8 : Int32)), .val (.ref a_PASSWORD_IN_HISTORY), .val (.ref h0.size)] [(.int (0 : Int32))])) _
    refine XS.ifNo X3.here hx rfl (hb hby at_22) rfl (by decide) ?_
    show Steps p.tables e below (T3.setTop (mkF m 25 #[.val (.int p1), .val (.int (8 : Int32)), .val (.ref a_PASSWORD_IN_HISTORY), .val (.ref h0.size)] [])) _
    refine XS.aloadN X3.here hx rfl (hb hby at_25) rfl rfl ?_
    show Steps p.tables e below (T3.setTop (mkF m 26 #[.val (.int p1), .val (.int (8 : Int32)), .val (.ref a_PASSWORD_IN_HISTORY), .val (.ref h0.size)] [(.ref h0.size)])) _
    refine st4.trans ?_
    show Steps p.tables e below (T4.setTop (mkF m 29 #[.val (.int p1), .val (.int (8 : Int32)), .val (.ref a_PASSWORD_IN_HISTORY), .val (.ref h0.size)] [(.ref a_PASSWORD_IN_HISTORY)])) _
    refine XS.aloadN X4.here hx rfl (hb hby at_29) rfl rfl ?_
    show Steps p.tables e below (T4.setTop (mkF m 30 #[.val (.int p1), .val (.int (8 : Int32)), .val (.ref a_PASSWORD_IN_HISTORY), .val (.ref h0.size)] [(.ref a_PASSWORD_IN_HISTORY), (.ref a_PASSWORD_IN_HISTORY)])) _
    refine Jvm.RoadKit.acmp (g := (mkF m 30 #[.val (.int p1), .val (.int (8 : Int32)), .val (.ref a_PASSWORD_IN_HISTORY), .val (.ref h0.size)] [(.ref a_PASSWORD_IN_HISTORY), (.ref a_PASSWORD_IN_HISTORY)])) X4 hx rfl rfl rfl (pc0 := 30) (pc' := 33) (same := true) rfl (hb hby at_30) rfl (decide_eq_true rfl) (by decide) (by decide) ?_
    show Steps p.tables e below (T4.setTop (mkF m 33 #[.val (.int p1), .val (.int (8 : Int32)), .val (.ref a_PASSWORD_IN_HISTORY), .val (.ref h0.size)] [])) _
    refine XS.aloadN X4.here hx rfl (hb hby at_33) rfl rfl ?_
    show Steps p.tables e below (T4.setTop (mkF m 34 #[.val (.int p1), .val (.int (8 : Int32)), .val (.ref a_PASSWORD_IN_HISTORY), .val (.ref h0.size)] [(.ref h0.size)])) _
    refine st5.trans ?_
    show Steps p.tables e below (T5.setTop (mkF m 37 #[.val (.int p1), .val (.int (8 : Int32)), .val (.ref a_PASSWORD_IN_HISTORY), .val (.ref h0.size)] [.null])) _
    refine XS.ifnonnullNo X5.here hx rfl (hb hby at_37) rfl ?_
    show Steps p.tables e below (T5.setTop (mkF m 40 #[.val (.int p1), .val (.int (8 : Int32)), .val (.ref a_PASSWORD_IN_HISTORY), .val (.ref h0.size)] [])) _
    refine XS.aloadN X5.here hx rfl (hb hby at_40) rfl rfl ?_
    show Steps p.tables e below (T5.setTop (mkF m 41 #[.val (.int p1), .val (.int (8 : Int32)), .val (.ref a_PASSWORD_IN_HISTORY), .val (.ref h0.size)] [(.ref h0.size)])) _
    refine st6.trans ?_
    show Steps p.tables e below (T6.setTop (mkF m 44 #[.val (.int p1), .val (.int (8 : Int32)), .val (.ref a_PASSWORD_IN_HISTORY), .val (.ref h0.size)] [.null])) _
    refine XS.ifnonnullNo X6.here hx rfl (hb hby at_44) rfl ?_
    show Steps p.tables e below (T6.setTop (mkF m 47 #[.val (.int p1), .val (.int (8 : Int32)), .val (.ref a_PASSWORD_IN_HISTORY), .val (.ref h0.size)] [])) _
    refine XS.aloadN X6.here hx rfl (hb hby at_47) rfl rfl ?_
    show Steps p.tables e below (T6.setTop (mkF m 48 #[.val (.int p1), .val (.int (8 : Int32)), .val (.ref a_PASSWORD_IN_HISTORY), .val (.ref h0.size)] [(.ref h0.size)])) _
    refine st7.trans ?_
    show Steps p.tables e below (T7.setTop (mkF m 51 #[.val (.int p1), .val (.int (8 : Int32)), .val (.ref a_PASSWORD_IN_HISTORY), .val (.ref h0.size)] [.null])) _
    refine XS.ifnonnullNo X7.here hx rfl (hb hby at_51) rfl ?_
    show Steps p.tables e below (T7.setTop (mkF m 54 #[.val (.int p1), .val (.int (8 : Int32)), .val (.ref a_PASSWORD_IN_HISTORY), .val (.ref h0.size)] [])) _
    refine XS.iconst X7.here hx rfl (hb hby at_54) ?_
    show Steps p.tables e below (T7.setTop (mkF m 55 #[.val (.int p1), .val (.int (8 : Int32)), .val (.ref a_PASSWORD_IN_HISTORY), .val (.ref h0.size)] [(.int (1 : Int32))])) _
    refine XS.goto X7.here hx rfl (pc0 := 55) (pc' := 59) rfl (hb hby at_55) (by decide) (by decide) ?_
    show Steps p.tables e below (T7.setTop (mkF m 59 #[.val (.int p1), .val (.int (8 : Int32)), .val (.ref a_PASSWORD_IN_HISTORY), .val (.ref h0.size)] [(.int (1 : Int32))])) _
    exact retN X7 hx (t := .boolean) Bd.returns (by simp) (hb hby at_59) hr
  · show own_QL _ n0 _ T7.heap _
    exact ⟨rfl, N7⟩
set_option maxRecDepth 65536 in
set_option maxHeartbeats 40000000 in
theorem own_law_9 (l : Launch) (Z : State) (a0 : Array Value) (hw : ∀ d ∈ tables_1, d.before a0 Z = true) (ws : List Jvm.Cond) (a_PASSWORD_EXPIRED a_PASSWORD_MOD_NOT_ALLOWED a_ACCOUNT_LOCKED a_MUST_SUPPLY_OLD_PASSWORD a_PASSWORD_TOO_YOUNG a_CHANGE_AFTER_RESET a_PASSWORD_IN_HISTORY a_INSUFFICIENT_PASSWORD_QUALITY a_PASSWORD_TOO_SHORT : Addr) (p1 : Int32) (h0 : Heap) (n0 : Nat) (hp : own_Pin Z h0 a_PASSWORD_EXPIRED a_PASSWORD_MOD_NOT_ALLOWED a_ACCOUNT_LOCKED a_MUST_SUPPLY_OLD_PASSWORD a_PASSWORD_TOO_YOUNG a_CHANGE_AFTER_RESET a_PASSWORD_IN_HISTORY a_INSUFFICIENT_PASSWORD_QUALITY a_PASSWORD_TOO_SHORT) (Z0 : n0 ≤ h0.size) (hi : ((p1 &&& (2147483647 : Int32)) % (10 : Int32)) = (9 : Int32)) :
    MetFree l x (head1 (Jvm.Cond.code x code maxLocals ret :: ws) room_1) (fun a U => a = #[(.int p1)] ∧ Z.Warmed39 U.vm ∧ U.heap = h0) (fun _ _ _ _ _ => True) (fun _ U o U' => ∃ v L, o = .returned v ∧ own_QL (.int (1 : Int32)) n0 v U'.heap L ∧ FrameEnd U o U' L room_1.cells room_1.slots) := by
  have hp' := hp
  obtain ⟨S_PASSWORD_EXPIRED, S_PASSWORD_MOD_NOT_ALLOWED, S_ACCOUNT_LOCKED, S_MUST_SUPPLY_OLD_PASSWORD, S_PASSWORD_TOO_YOUNG, S_CHANGE_AFTER_RESET, S_PASSWORD_IN_HISTORY, S_INSUFFICIENT_PASSWORD_QUALITY, S_PASSWORD_TOO_SHORT, E_PASSWORD_EXPIRED, E_PASSWORD_MOD_NOT_ALLOWED, E_ACCOUNT_LOCKED, E_MUST_SUPPLY_OLD_PASSWORD, E_PASSWORD_TOO_YOUNG, E_CHANGE_AFTER_RESET, E_PASSWORD_IN_HISTORY, E_INSUFFICIENT_PASSWORD_QUALITY, E_PASSWORD_TOO_SHORT⟩ := hp'
  refine MetFree.of_bodySF (plainFor_of_name own_pn1) hisR ?_
  intro p e s m args below meth c s₁ Bd hml0 hP hK
  obtain ⟨rfl, hZ, hh⟩ := hP
  have hx := Bd.exec
  have hby := Bd.bytes
  have hml : c.maxLocals = 4 := hml0
  have hown : s.vm.findClass "com/example/passwarden/passwarden/core/ChangeDecisionRefusedPinLaw" = some m.cls := findClass_of_methodNamed Bd.named
  have X0 : Stand p l e room_1 s m #[(.int p1)] below meth c s₁ [] 0 0 := Stand.of_body Bd
  have e0 : s₁.heap = h0 := by rw [← hh, Bd.state]; rfl
  have N0 := Fr.nil n0
  have pre0 : ∀ t, Steps p.tables e below (s₁.setTop (mkF m 0 #[.val (.int p1), .unset, .unset, .unset] [])) t → Steps p.tables e below (s₁.setTop (entryFrame m #[(.int p1)] maxLocals)) t := fun t k => castTop (by first | (simp [entryFrame, mkF, argsToLocals, Value.category, maxLocals]; done) | rfl) k
  obtain ⟨_, _, ⟨T1, L1, k1, n1⟩, -, X1, ⟨Lc1, hQ1, l1, y1, z1⟩, st1⟩ := Jvm.LawKit.callS X0 hx (y := (⟨"com/example/passwarden/passwarden/core/ChangeDecisionRefusedPinLaw", "pick", "(I)Lcom/example/passwarden/passwarden/core/PolicyError;"⟩ : MethodName)) hown (mvT hZ (hw _ (List.mem_of_getElem? (i := 1) rfl))) (mvT hZ (hw _ (List.mem_of_getElem? (i := 2) rfl))) (mvT hZ (hw _ (List.mem_of_getElem? (i := 3) rfl))) (mvT hZ (hw _ (List.mem_of_getElem? (i := 4) rfl))) (by decide) (backOf (W := 0) (own_b1_9 l Z a0 hw [] a_PASSWORD_EXPIRED a_PASSWORD_MOD_NOT_ALLOWED a_ACCOUNT_LOCKED a_MUST_SUPPLY_OLD_PASSWORD a_PASSWORD_TOO_YOUNG a_CHANGE_AFTER_RESET a_PASSWORD_IN_HISTORY a_INSUFFICIENT_PASSWORD_QUALITY a_PASSWORD_TOO_SHORT  h0 n0 hp) hZ (hw _ (List.mem_of_getElem? (i := 4) rfl)) (hw _ (List.mem_of_getElem? (i := 3) rfl)) (by decide) (by decide)) (g := (mkF m 9 #[.val (.int p1), .val (.int (9 : Int32)), .unset, .unset] [(.int (9 : Int32))])) rfl (by rw [hml]; rfl) (argsL := [(.int (9 : Int32))]) (rest := []) (lenOf own_pd0 rfl) rfl (by show 2 * 0 + _ ≤ _; exact Nat.le_of_eq rfl) (hb hby at_9) (fun _ _ => ⟨rfl, e0, (by decide : 0 + 0 ≤ _), (by decide : 0 + 0 ≤ _)⟩)
  dsimp only [Pt.U, Pt.locs, Pt.cells, Pt.slots] at X1 l1 y1 z1 st1 hQ1
  subst l1 y1 z1
  obtain ⟨rfl, N1q, e1⟩ := hQ1
  have N1 := Fr.app N0 N1q
  obtain ⟨_, _, ⟨T2, L2, k2, n2⟩, -, X2, ⟨Lc2, hQ2, l2, y2, z2⟩, st2⟩ := Jvm.LawKit.callS X1 hx (y := (⟨"com/example/passwarden/passwarden/core/ChangeDecision", "refused", "(Lcom/example/passwarden/passwarden/core/PolicyError;)Lcom/example/passwarden/passwarden/core/ChangeDecision;"⟩ : MethodName)) hown (mvT hZ (hw _ (List.mem_of_getElem? (i := 8) rfl))) (mvT hZ (hw _ (List.mem_of_getElem? (i := 9) rfl))) (mvT hZ (hw _ (List.mem_of_getElem? (i := 10) rfl))) (mvT hZ (hw _ (List.mem_of_getElem? (i := 11) rfl))) (by decide) (backOf (W := 0) (own_refN l Z a0 hw [] h0 n0 Z0) hZ (hw _ (List.mem_of_getElem? (i := 11) rfl)) (hw _ (List.mem_of_getElem? (i := 10) rfl)) (by decide) (by decide)) (g := (mkF m 14 #[.val (.int p1), .val (.int (9 : Int32)), .val .null, .unset] [.null])) rfl (by rw [hml]; rfl) (argsL := [.null]) (rest := []) (lenOf own_pd1 rfl) rfl (by show 2 * 0 + _ ≤ _; exact Nat.le_of_eq rfl) (hb hby at_14) (fun _ _ => ⟨rfl, e1, (by decide : 0 + 1 ≤ _), (by decide : 0 + 5 ≤ _)⟩)
  dsimp only [Pt.U, Pt.locs, Pt.cells, Pt.slots] at X2 l2 y2 z2 st2 hQ2
  subst l2 y2 z2
  obtain ⟨rfl, N2q, E_obj, F_acc, F_err, F_pwd, F_sta, F_his⟩ := hQ2
  have e2 : T2.heap = T2.heap := rfl
  have N2 := Fr.app N1 N2q
  obtain ⟨cq3, kq3, q3a, q3b, q3c⟩ := isOf hZ e2 E_obj
  obtain ⟨_, _, ⟨T3, L3, k3, n3⟩, -, X3, ⟨Lc3, hQ3, l3, y3, z3⟩, st3⟩ := X2.virtualBack hx (y := (⟨"com/example/passwarden/passwarden/core/ChangeDecision", "isAccepted", "()Z"⟩ : MethodName)) (z := (⟨"com/example/passwarden/passwarden/core/ChangeDecision", "isAccepted", "()Z"⟩ : MethodName)) hown (mvT hZ (hw _ (List.mem_of_getElem? (i := 30) rfl))) (mvT hZ (hw _ (List.mem_of_getElem? (i := 31) rfl))) (notFace_of_selects (args := #[]) (mvT hZ (hw _ (List.mem_of_getElem? (i := 33) rfl)))) (mvT hZ (hw _ (List.mem_of_getElem? (i := 33) rfl))) (mvT hZ (hw _ (List.mem_of_getElem? (i := 32) rfl))) (by decide) (backOf (W := 0) (own_isAccepted l Z a0 hw [] h0.size _ n0 F_acc) hZ (hw _ (List.mem_of_getElem? (i := 34) rfl)) (hw _ (List.mem_of_getElem? (i := 10) rfl)) (by decide) (by decide)) q3a q3c (g := (mkF m 19 #[.val (.int p1), .val (.int (9 : Int32)), .val .null, .val (.ref h0.size)] [(.ref h0.size)])) rfl (by rw [hml]; rfl) (Steps.refl _) (argsL := []) (rest := []) (lenOf own_pd2 rfl) rfl (by show 2 * 0 + _ ≤ _; exact Nat.le_of_eq rfl) (hb hby at_19) (fun _ _ => ⟨rfl, e2, (by decide : 1 + 0 ≤ _), (by decide : 5 + 0 ≤ _)⟩)
  dsimp only [Pt.U, Pt.locs, Pt.cells, Pt.slots] at X3 l3 y3 z3 st3 hQ3
  subst l3 y3 z3
  obtain ⟨rfl, N3q, e3⟩ := hQ3
  have N3 := Fr.app N2 N3q
  obtain ⟨cq4, kq4, q4a, q4b, q4c⟩ := isOf hZ e3 E_obj
  obtain ⟨_, _, ⟨T4, L4, k4, n4⟩, -, X4, ⟨Lc4, hQ4, l4, y4, z4⟩, st4⟩ := X3.virtualBack hx (y := (⟨"com/example/passwarden/passwarden/core/ChangeDecision", "getError", "()Lcom/example/passwarden/passwarden/core/PolicyError;"⟩ : MethodName)) (z := (⟨"com/example/passwarden/passwarden/core/ChangeDecision", "getError", "()Lcom/example/passwarden/passwarden/core/PolicyError;"⟩ : MethodName)) hown (mvT hZ (hw _ (List.mem_of_getElem? (i := 35) rfl))) (mvT hZ (hw _ (List.mem_of_getElem? (i := 36) rfl))) (notFace_of_selects (args := #[]) (mvT hZ (hw _ (List.mem_of_getElem? (i := 38) rfl)))) (mvT hZ (hw _ (List.mem_of_getElem? (i := 38) rfl))) (mvT hZ (hw _ (List.mem_of_getElem? (i := 37) rfl))) (by decide) (backOf (W := 0) (own_getErrorN l Z a0 hw [] h0.size _ n0 F_err) hZ (hw _ (List.mem_of_getElem? (i := 39) rfl)) (hw _ (List.mem_of_getElem? (i := 10) rfl)) (by decide) (by decide)) q4a q4c (g := (mkF m 26 #[.val (.int p1), .val (.int (9 : Int32)), .val .null, .val (.ref h0.size)] [(.ref h0.size)])) rfl (by rw [hml]; rfl) (Steps.refl _) (argsL := []) (rest := []) (lenOf own_pd3 rfl) rfl (by show 2 * 0 + _ ≤ _; exact Nat.le_of_eq rfl) (hb hby at_26) (fun _ _ => ⟨rfl, e3, (by decide : 1 + 0 ≤ _), (by decide : 5 + 0 ≤ _)⟩)
  dsimp only [Pt.U, Pt.locs, Pt.cells, Pt.slots] at X4 l4 y4 z4 st4 hQ4
  subst l4 y4 z4
  obtain ⟨rfl, N4q, e4⟩ := hQ4
  have N4 := Fr.app N3 N4q
  obtain ⟨cq5, kq5, q5a, q5b, q5c⟩ := isOf hZ e4 E_obj
  obtain ⟨_, _, ⟨T5, L5, k5, n5⟩, -, X5, ⟨Lc5, hQ5, l5, y5, z5⟩, st5⟩ := X4.virtualBack hx (y := (⟨"com/example/passwarden/passwarden/core/ChangeDecision", "getStoredPassword", "()[B"⟩ : MethodName)) (z := (⟨"com/example/passwarden/passwarden/core/ChangeDecision", "getStoredPassword", "()[B"⟩ : MethodName)) hown (mvT hZ (hw _ (List.mem_of_getElem? (i := 40) rfl))) (mvT hZ (hw _ (List.mem_of_getElem? (i := 41) rfl))) (notFace_of_selects (args := #[]) (mvT hZ (hw _ (List.mem_of_getElem? (i := 43) rfl)))) (mvT hZ (hw _ (List.mem_of_getElem? (i := 43) rfl))) (mvT hZ (hw _ (List.mem_of_getElem? (i := 42) rfl))) (by decide) (backOf (W := 0) (own_getStoredPassword l Z a0 hw [] h0.size _ n0 F_pwd) hZ (hw _ (List.mem_of_getElem? (i := 44) rfl)) (hw _ (List.mem_of_getElem? (i := 10) rfl)) (by decide) (by decide)) q5a q5c (g := (mkF m 34 #[.val (.int p1), .val (.int (9 : Int32)), .val .null, .val (.ref h0.size)] [(.ref h0.size)])) rfl (by rw [hml]; rfl) (Steps.refl _) (argsL := []) (rest := []) (lenOf own_pd4 rfl) rfl (by show 2 * 0 + _ ≤ _; exact Nat.le_of_eq rfl) (hb hby at_34) (fun _ _ => ⟨rfl, e4, (by decide : 1 + 0 ≤ _), (by decide : 5 + 0 ≤ _)⟩)
  dsimp only [Pt.U, Pt.locs, Pt.cells, Pt.slots] at X5 l5 y5 z5 st5 hQ5
  subst l5 y5 z5
  obtain ⟨rfl, N5q, e5⟩ := hQ5
  have N5 := Fr.app N4 N5q
  obtain ⟨cq6, kq6, q6a, q6b, q6c⟩ := isOf hZ e5 E_obj
  obtain ⟨_, _, ⟨T6, L6, k6, n6⟩, -, X6, ⟨Lc6, hQ6, l6, y6, z6⟩, st6⟩ := X5.virtualBack hx (y := (⟨"com/example/passwarden/passwarden/core/ChangeDecision", "getState", "()Lcom/example/passwarden/passwarden/core/AccountState;"⟩ : MethodName)) (z := (⟨"com/example/passwarden/passwarden/core/ChangeDecision", "getState", "()Lcom/example/passwarden/passwarden/core/AccountState;"⟩ : MethodName)) hown (mvT hZ (hw _ (List.mem_of_getElem? (i := 45) rfl))) (mvT hZ (hw _ (List.mem_of_getElem? (i := 46) rfl))) (notFace_of_selects (args := #[]) (mvT hZ (hw _ (List.mem_of_getElem? (i := 48) rfl)))) (mvT hZ (hw _ (List.mem_of_getElem? (i := 48) rfl))) (mvT hZ (hw _ (List.mem_of_getElem? (i := 47) rfl))) (by decide) (backOf (W := 0) (own_getState l Z a0 hw [] h0.size _ n0 F_sta) hZ (hw _ (List.mem_of_getElem? (i := 49) rfl)) (hw _ (List.mem_of_getElem? (i := 10) rfl)) (by decide) (by decide)) q6a q6c (g := (mkF m 41 #[.val (.int p1), .val (.int (9 : Int32)), .val .null, .val (.ref h0.size)] [(.ref h0.size)])) rfl (by rw [hml]; rfl) (Steps.refl _) (argsL := []) (rest := []) (lenOf own_pd5 rfl) rfl (by show 2 * 0 + _ ≤ _; exact Nat.le_of_eq rfl) (hb hby at_41) (fun _ _ => ⟨rfl, e5, (by decide : 1 + 0 ≤ _), (by decide : 5 + 0 ≤ _)⟩)
  dsimp only [Pt.U, Pt.locs, Pt.cells, Pt.slots] at X6 l6 y6 z6 st6 hQ6
  subst l6 y6 z6
  obtain ⟨rfl, N6q, e6⟩ := hQ6
  have N6 := Fr.app N5 N6q
  obtain ⟨cq7, kq7, q7a, q7b, q7c⟩ := isOf hZ e6 E_obj
  obtain ⟨_, _, ⟨T7, L7, k7, n7⟩, -, X7, ⟨Lc7, hQ7, l7, y7, z7⟩, st7⟩ := X6.virtualBack hx (y := (⟨"com/example/passwarden/passwarden/core/ChangeDecision", "getHistory", "()Lcom/example/passwarden/passwarden/core/PasswordHistory;"⟩ : MethodName)) (z := (⟨"com/example/passwarden/passwarden/core/ChangeDecision", "getHistory", "()Lcom/example/passwarden/passwarden/core/PasswordHistory;"⟩ : MethodName)) hown (mvT hZ (hw _ (List.mem_of_getElem? (i := 50) rfl))) (mvT hZ (hw _ (List.mem_of_getElem? (i := 51) rfl))) (notFace_of_selects (args := #[]) (mvT hZ (hw _ (List.mem_of_getElem? (i := 53) rfl)))) (mvT hZ (hw _ (List.mem_of_getElem? (i := 53) rfl))) (mvT hZ (hw _ (List.mem_of_getElem? (i := 52) rfl))) (by decide) (backOf (W := 0) (own_getHistory l Z a0 hw [] h0.size _ n0 F_his) hZ (hw _ (List.mem_of_getElem? (i := 54) rfl)) (hw _ (List.mem_of_getElem? (i := 10) rfl)) (by decide) (by decide)) q7a q7c (g := (mkF m 48 #[.val (.int p1), .val (.int (9 : Int32)), .val .null, .val (.ref h0.size)] [(.ref h0.size)])) rfl (by rw [hml]; rfl) (Steps.refl _) (argsL := []) (rest := []) (lenOf own_pd6 rfl) rfl (by show 2 * 0 + _ ≤ _; exact Nat.le_of_eq rfl) (hb hby at_48) (fun _ _ => ⟨rfl, e6, (by decide : 1 + 0 ≤ _), (by decide : 5 + 0 ≤ _)⟩)
  dsimp only [Pt.U, Pt.locs, Pt.cells, Pt.slots] at X7 l7 y7 z7 st7 hQ7
  subst l7 y7 z7
  obtain ⟨rfl, N7q, e7⟩ := hQ7
  have N7 := Fr.app N6 N7q
  obtain ⟨fs, hr, hrun, hended, hW, hsame⟩ := X7.leave (v := some (.int (1 : Int32))) (fun h => by rw [Bd.returns] at h; cases h)
  refine ⟨_, _, pre0 _ ?_, hrun, hended, _, _, rfl, ?_, ⟨_, rfl⟩, hW, hsame.mono (by decide) (by decide)⟩
  · show Steps p.tables e below (s₁.setTop (mkF m 0 #[.val (.int p1), .unset, .unset, .unset] [])) _
    refine XS.iloadN X0.here hx rfl (hb hby at_0) rfl ?_
    show Steps p.tables e below (s₁.setTop (mkF m 1 #[.val (.int p1), .unset, .unset, .unset] [(.int p1)])) _
    refine X0.ldcInt hx hown (mvT hZ (hw _ (List.mem_of_getElem? (i := 0) rfl))) (g := (mkF m 1 #[.val (.int p1), .unset, .unset, .unset] [(.int p1)])) rfl (hb hby at_1) _ ?_
    show Steps p.tables e below (s₁.setTop (mkF m 3 #[.val (.int p1), .unset, .unset, .unset] [(.int (2147483647 : Int32)), (.int p1)])) _
    refine XS.iand X0.here hx rfl (hb hby at_3) rfl ?_
    show Steps p.tables e below (s₁.setTop (mkF m 4 #[.val (.int p1), .unset, .unset, .unset] [(.int (p1 &&& (2147483647 : Int32)))])) _
    refine XS.bipush X0.here hx rfl (hb hby at_4) ?_
    show Steps p.tables e below (s₁.setTop (mkF m 6 #[.val (.int p1), .unset, .unset, .unset] [(.int (10 : Int32)), (.int (p1 &&& (2147483647 : Int32)))])) _
    refine iremM (g := (mkF m 6 #[.val (.int p1), .unset, .unset, .unset] [(.int (10 : Int32)), (.int (p1 &&& (2147483647 : Int32)))])) X0 hx rfl (hb hby at_6) rfl (by decide) ?_
    show Steps p.tables e below (s₁.setTop (mkF m 7 #[.val (.int p1), .unset, .unset, .unset] [(.int ((p1 &&& (2147483647 : Int32)) % (10 : Int32)))])) _
    rewrite [hi]
    show Steps p.tables e below (s₁.setTop (mkF m 7 #[.val (.int p1), .unset, .unset, .unset] [(.int (9 : Int32))])) _
    refine XS.istoreN X0.here hx rfl (hb hby at_7) rfl (l' := #[.val (.int p1), .val (.int (9 : Int32)), .unset, .unset]) rfl ?_
    show Steps p.tables e below (s₁.setTop (mkF m 8 #[.val (.int p1), .val (.int (9 : Int32)), .unset, .unset] [])) _
    refine XS.iloadN X0.here hx rfl (hb hby at_8) rfl ?_
    show Steps p.tables e below (s₁.setTop (mkF m 9 #[.val (.int p1), .val (.int (9 : Int32)), .unset, .unset] [(.int (9 : Int32))])) _
    refine st1 _ ?_
    show Steps p.tables e below (T1.setTop (mkF m 12 #[.val (.int p1), .val (.int (9 : Int32)), .unset, .unset] [.null])) _
    refine XS.astoreN X1.here hx rfl (hb hby at_12) rfl rfl (l' := #[.val (.int p1), .val (.int (9 : Int32)), .val .null, .unset]) rfl ?_
    show Steps p.tables e below (T1.setTop (mkF m 13 #[.val (.int p1), .val (.int (9 : Int32)), .val .null, .unset] [])) _
    refine XS.aloadN X1.here hx rfl (hb hby at_13) rfl rfl ?_
    show Steps p.tables e below (T1.setTop (mkF m 14 #[.val (.int p1), .val (.int (9 : Int32)), .val .null, .unset] [.null])) _
    refine st2 _ ?_
    show Steps p.tables e below (T2.setTop (mkF m 17 #[.val (.int p1), .val (.int (9 : Int32)), .val .null, .unset] [(.ref h0.size)])) _
    refine XS.astoreN X2.here hx rfl (hb hby at_17) rfl rfl (l' := #[.val (.int p1), .val (.int (9 : Int32)), .val .null, .val (.ref h0.size)]) rfl ?_
    show Steps p.tables e below (T2.setTop (mkF m 18 #[.val (.int p1), .val (.int (9 : Int32)), .val .null, .val (.ref h0.size)] [])) _
    refine XS.aloadN X2.here hx rfl (hb hby at_18) rfl rfl ?_
    show Steps p.tables e below (T2.setTop (mkF m 19 #[.val (.int p1), .val (.int (9 : Int32)), .val .null, .val (.ref h0.size)] [(.ref h0.size)])) _
    refine st3.trans ?_
    show Steps p.tables e below (T3.setTop (mkF m 22 #[.val (.int p1), .val (.int (9 : Int32)), .val .null, .val (.ref h0.size)] [(.int (0 : Int32))])) _
    refine XS.ifNo X3.here hx rfl (hb hby at_22) rfl (by decide) ?_
    show Steps p.tables e below (T3.setTop (mkF m 25 #[.val (.int p1), .val (.int (9 : Int32)), .val .null, .val (.ref h0.size)] [])) _
    refine XS.aloadN X3.here hx rfl (hb hby at_25) rfl rfl ?_
    show Steps p.tables e below (T3.setTop (mkF m 26 #[.val (.int p1), .val (.int (9 : Int32)), .val .null, .val (.ref h0.size)] [(.ref h0.size)])) _
    refine st4.trans ?_
    show Steps p.tables e below (T4.setTop (mkF m 29 #[.val (.int p1), .val (.int (9 : Int32)), .val .null, .val (.ref h0.size)] [.null])) _
    refine XS.aloadN X4.here hx rfl (hb hby at_29) rfl rfl ?_
    show Steps p.tables e below (T4.setTop (mkF m 30 #[.val (.int p1), .val (.int (9 : Int32)), .val .null, .val (.ref h0.size)] [.null, .null])) _
    refine Jvm.RoadKit.acmp (g := (mkF m 30 #[.val (.int p1), .val (.int (9 : Int32)), .val .null, .val (.ref h0.size)] [.null, .null])) X4 hx rfl rfl rfl (pc0 := 30) (pc' := 33) (same := true) rfl (hb hby at_30) rfl (decide_eq_true rfl) (by decide) (by decide) ?_
    show Steps p.tables e below (T4.setTop (mkF m 33 #[.val (.int p1), .val (.int (9 : Int32)), .val .null, .val (.ref h0.size)] [])) _
    refine XS.aloadN X4.here hx rfl (hb hby at_33) rfl rfl ?_
    show Steps p.tables e below (T4.setTop (mkF m 34 #[.val (.int p1), .val (.int (9 : Int32)), .val .null, .val (.ref h0.size)] [(.ref h0.size)])) _
    refine st5.trans ?_
    show Steps p.tables e below (T5.setTop (mkF m 37 #[.val (.int p1), .val (.int (9 : Int32)), .val .null, .val (.ref h0.size)] [.null])) _
    refine XS.ifnonnullNo X5.here hx rfl (hb hby at_37) rfl ?_
    show Steps p.tables e below (T5.setTop (mkF m 40 #[.val (.int p1), .val (.int (9 : Int32)), .val .null, .val (.ref h0.size)] [])) _
    refine XS.aloadN X5.here hx rfl (hb hby at_40) rfl rfl ?_
    show Steps p.tables e below (T5.setTop (mkF m 41 #[.val (.int p1), .val (.int (9 : Int32)), .val .null, .val (.ref h0.size)] [(.ref h0.size)])) _
    refine st6.trans ?_
    show Steps p.tables e below (T6.setTop (mkF m 44 #[.val (.int p1), .val (.int (9 : Int32)), .val .null, .val (.ref h0.size)] [.null])) _
    refine XS.ifnonnullNo X6.here hx rfl (hb hby at_44) rfl ?_
    show Steps p.tables e below (T6.setTop (mkF m 47 #[.val (.int p1), .val (.int (9 : Int32)), .val .null, .val (.ref h0.size)] [])) _
    refine XS.aloadN X6.here hx rfl (hb hby at_47) rfl rfl ?_
    show Steps p.tables e below (T6.setTop (mkF m 48 #[.val (.int p1), .val (.int (9 : Int32)), .val .null, .val (.ref h0.size)] [(.ref h0.size)])) _
    refine st7.trans ?_
    show Steps p.tables e below (T7.setTop (mkF m 51 #[.val (.int p1), .val (.int (9 : Int32)), .val .null, .val (.ref h0.size)] [.null])) _
    refine XS.ifnonnullNo X7.here hx rfl (hb hby at_51) rfl ?_
    show Steps p.tables e below (T7.setTop (mkF m 54 #[.val (.int p1), .val (.int (9 : Int32)), .val .null, .val (.ref h0.size)] [])) _
    refine XS.iconst X7.here hx rfl (hb hby at_54) ?_
    show Steps p.tables e below (T7.setTop (mkF m 55 #[.val (.int p1), .val (.int (9 : Int32)), .val .null, .val (.ref h0.size)] [(.int (1 : Int32))])) _
    refine XS.goto X7.here hx rfl (pc0 := 55) (pc' := 59) rfl (hb hby at_55) (by decide) (by decide) ?_
    show Steps p.tables e below (T7.setTop (mkF m 59 #[.val (.int p1), .val (.int (9 : Int32)), .val .null, .val (.ref h0.size)] [(.int (1 : Int32))])) _
    exact retN X7 hx (t := .boolean) Bd.returns (by simp) (hb hby at_59) hr
  · show own_QL _ n0 _ T7.heap _
    exact ⟨rfl, N7⟩
theorem own_law (l : Launch) (Z : State) (a0 : Array Value) (hw : ∀ d ∈ tables_1, d.before a0 Z = true) (ws : List Jvm.Cond) (a_PASSWORD_EXPIRED a_PASSWORD_MOD_NOT_ALLOWED a_ACCOUNT_LOCKED a_MUST_SUPPLY_OLD_PASSWORD a_PASSWORD_TOO_YOUNG a_CHANGE_AFTER_RESET a_PASSWORD_IN_HISTORY a_INSUFFICIENT_PASSWORD_QUALITY a_PASSWORD_TOO_SHORT : Addr) (p1 : Int32) (h0 : Heap) (n0 : Nat) (hp : own_Pin Z h0 a_PASSWORD_EXPIRED a_PASSWORD_MOD_NOT_ALLOWED a_ACCOUNT_LOCKED a_MUST_SUPPLY_OLD_PASSWORD a_PASSWORD_TOO_YOUNG a_CHANGE_AFTER_RESET a_PASSWORD_IN_HISTORY a_INSUFFICIENT_PASSWORD_QUALITY a_PASSWORD_TOO_SHORT) (Z0 : n0 ≤ h0.size) :
    MetFree l x (head1 (Jvm.Cond.code x code maxLocals ret :: ws) room_1) (fun a U => a = #[(.int p1)] ∧ Z.Warmed39 U.vm ∧ U.heap = h0) (fun _ _ _ _ _ => True) (fun _ U o U' => ∃ v L, o = .returned v ∧ own_QL (.int (1 : Int32)) n0 v U'.heap L ∧ FrameEnd U o U' L room_1.cells room_1.slots) := by
  rcases own_few10 ((p1 &&& (2147483647 : Int32)) % (10 : Int32)) (own_rem p1 _ 10 (by decide) (by decide)).1 (own_rem p1 _ 10 (by decide) (by decide)).2 with hi | hi | hi | hi | hi | hi | hi | hi | hi | hi
  · exact own_law_0 l Z a0 hw ws a_PASSWORD_EXPIRED a_PASSWORD_MOD_NOT_ALLOWED a_ACCOUNT_LOCKED a_MUST_SUPPLY_OLD_PASSWORD a_PASSWORD_TOO_YOUNG a_CHANGE_AFTER_RESET a_PASSWORD_IN_HISTORY a_INSUFFICIENT_PASSWORD_QUALITY a_PASSWORD_TOO_SHORT p1 h0 n0 hp Z0 hi
  · exact own_law_1 l Z a0 hw ws a_PASSWORD_EXPIRED a_PASSWORD_MOD_NOT_ALLOWED a_ACCOUNT_LOCKED a_MUST_SUPPLY_OLD_PASSWORD a_PASSWORD_TOO_YOUNG a_CHANGE_AFTER_RESET a_PASSWORD_IN_HISTORY a_INSUFFICIENT_PASSWORD_QUALITY a_PASSWORD_TOO_SHORT p1 h0 n0 hp Z0 hi
  · exact own_law_2 l Z a0 hw ws a_PASSWORD_EXPIRED a_PASSWORD_MOD_NOT_ALLOWED a_ACCOUNT_LOCKED a_MUST_SUPPLY_OLD_PASSWORD a_PASSWORD_TOO_YOUNG a_CHANGE_AFTER_RESET a_PASSWORD_IN_HISTORY a_INSUFFICIENT_PASSWORD_QUALITY a_PASSWORD_TOO_SHORT p1 h0 n0 hp Z0 hi
  · exact own_law_3 l Z a0 hw ws a_PASSWORD_EXPIRED a_PASSWORD_MOD_NOT_ALLOWED a_ACCOUNT_LOCKED a_MUST_SUPPLY_OLD_PASSWORD a_PASSWORD_TOO_YOUNG a_CHANGE_AFTER_RESET a_PASSWORD_IN_HISTORY a_INSUFFICIENT_PASSWORD_QUALITY a_PASSWORD_TOO_SHORT p1 h0 n0 hp Z0 hi
  · exact own_law_4 l Z a0 hw ws a_PASSWORD_EXPIRED a_PASSWORD_MOD_NOT_ALLOWED a_ACCOUNT_LOCKED a_MUST_SUPPLY_OLD_PASSWORD a_PASSWORD_TOO_YOUNG a_CHANGE_AFTER_RESET a_PASSWORD_IN_HISTORY a_INSUFFICIENT_PASSWORD_QUALITY a_PASSWORD_TOO_SHORT p1 h0 n0 hp Z0 hi
  · exact own_law_5 l Z a0 hw ws a_PASSWORD_EXPIRED a_PASSWORD_MOD_NOT_ALLOWED a_ACCOUNT_LOCKED a_MUST_SUPPLY_OLD_PASSWORD a_PASSWORD_TOO_YOUNG a_CHANGE_AFTER_RESET a_PASSWORD_IN_HISTORY a_INSUFFICIENT_PASSWORD_QUALITY a_PASSWORD_TOO_SHORT p1 h0 n0 hp Z0 hi
  · exact own_law_6 l Z a0 hw ws a_PASSWORD_EXPIRED a_PASSWORD_MOD_NOT_ALLOWED a_ACCOUNT_LOCKED a_MUST_SUPPLY_OLD_PASSWORD a_PASSWORD_TOO_YOUNG a_CHANGE_AFTER_RESET a_PASSWORD_IN_HISTORY a_INSUFFICIENT_PASSWORD_QUALITY a_PASSWORD_TOO_SHORT p1 h0 n0 hp Z0 hi
  · exact own_law_7 l Z a0 hw ws a_PASSWORD_EXPIRED a_PASSWORD_MOD_NOT_ALLOWED a_ACCOUNT_LOCKED a_MUST_SUPPLY_OLD_PASSWORD a_PASSWORD_TOO_YOUNG a_CHANGE_AFTER_RESET a_PASSWORD_IN_HISTORY a_INSUFFICIENT_PASSWORD_QUALITY a_PASSWORD_TOO_SHORT p1 h0 n0 hp Z0 hi
  · exact own_law_8 l Z a0 hw ws a_PASSWORD_EXPIRED a_PASSWORD_MOD_NOT_ALLOWED a_ACCOUNT_LOCKED a_MUST_SUPPLY_OLD_PASSWORD a_PASSWORD_TOO_YOUNG a_CHANGE_AFTER_RESET a_PASSWORD_IN_HISTORY a_INSUFFICIENT_PASSWORD_QUALITY a_PASSWORD_TOO_SHORT p1 h0 n0 hp Z0 hi
  · exact own_law_9 l Z a0 hw ws a_PASSWORD_EXPIRED a_PASSWORD_MOD_NOT_ALLOWED a_ACCOUNT_LOCKED a_MUST_SUPPLY_OLD_PASSWORD a_PASSWORD_TOO_YOUNG a_CHANGE_AFTER_RESET a_PASSWORD_IN_HISTORY a_INSUFFICIENT_PASSWORD_QUALITY a_PASSWORD_TOO_SHORT p1 h0 n0 hp Z0 hi
set_option maxRecDepth 65536 in
set_option maxHeartbeats 40000000 in
theorem comes_1 {Post : Tables → Env → Array Value → State → Outcome → State → Prop} (hpost : ∀ tb e args s v u, (limb_1_1.after args s (.returned v) u = true ∧ limb_1_2.after args s (.returned v) u = true ∧ True) → FrameEnd s (.returned v) u (Jvm.fieldLocs frame_1_writes args s ++ Jvm.arrayLocs frame_1_arrays args s ++ Jvm.staticLocs frame_1_statics s) 16 128 → Post tb e args s (.returned v) u) :
    ArmFor flags0 classFile x code maxLocals ret World_1 tables_1 room_1 Calls_1 rest_1 Pre_1 Post := by
  intro l hfl _ _ p e ha hc hk s m args below hf hA hF happ hP
  obtain ⟨hcalls, hrest, hpre⟩ := hP
  obtain ⟨-, -, -, hnamed, -, -, -, hat⟩ := (Spec.applies_iff hf).mp happ
  obtain ⟨hg, hn⟩ := and_e (Cond.before_iff.mp (show (Jvm.Cond.and given_1 narrow_1).before args s = true from hpre))
  obtain ⟨g0, g1⟩ := and_e hg
  obtain ⟨w0, rfl⟩ : ∃ w0 : Value, args = #[w0] := by
    have hs : args.size = 1 := by simpa [Cond.value, given_1] using g0
    obtain ⟨L⟩ := args
    match L, hs with
    | [w0], _ => exact ⟨w0, rfl⟩
  have hw := fun d (hd : d ∈ tables_1) => atoms_spec (ws := Jvm.Cond.code x code maxLocals ret :: tables_1) hat d (List.mem_cons_of_mem _ hd)
  obtain ⟨i0, ei0⟩ := is_v g1
  obtain rfl : w0 = (.int i0) := Option.some.inj ei0
  obtain ⟨c0, r0⟩ := and_e hn
  obtain ⟨c1, r1⟩ := and_e r0
  obtain ⟨c2, r2⟩ := and_e r1
  obtain ⟨c3, r3⟩ := and_e r2
  obtain ⟨c4, r4⟩ := and_e r3
  obtain ⟨c5, r5⟩ := and_e r4
  obtain ⟨c6, r6⟩ := and_e r5
  obtain ⟨c7, r7⟩ := and_e r6
  have c8 := r7
  obtain ⟨a_PASSWORD_EXPIRED, ev_PASSWORD_EXPIRED⟩ := exa_v c0
  have E_PASSWORD_EXPIRED : Exa s s.heap a_PASSWORD_EXPIRED "com/example/passwarden/passwarden/core/PolicyError" := Exa.start ev_PASSWORD_EXPIRED c0
  have S_PASSWORD_EXPIRED : Sta s s.heap "com/example/passwarden/passwarden/core/PolicyError" "PASSWORD_EXPIRED" "Lcom/example/passwarden/passwarden/core/PolicyError;" (.ref a_PASSWORD_EXPIRED) := Sta.start ev_PASSWORD_EXPIRED (Or.inr ⟨(hw _ (List.mem_of_getElem? (i := 6) rfl)), (hw _ (List.mem_of_getElem? (i := 7) rfl))⟩)
  obtain ⟨a_PASSWORD_MOD_NOT_ALLOWED, ev_PASSWORD_MOD_NOT_ALLOWED⟩ := exa_v c1
  have E_PASSWORD_MOD_NOT_ALLOWED : Exa s s.heap a_PASSWORD_MOD_NOT_ALLOWED "com/example/passwarden/passwarden/core/PolicyError" := Exa.start ev_PASSWORD_MOD_NOT_ALLOWED c1
  have S_PASSWORD_MOD_NOT_ALLOWED : Sta s s.heap "com/example/passwarden/passwarden/core/PolicyError" "PASSWORD_MOD_NOT_ALLOWED" "Lcom/example/passwarden/passwarden/core/PolicyError;" (.ref a_PASSWORD_MOD_NOT_ALLOWED) := Sta.start ev_PASSWORD_MOD_NOT_ALLOWED (Or.inr ⟨(hw _ (List.mem_of_getElem? (i := 6) rfl)), (hw _ (List.mem_of_getElem? (i := 56) rfl))⟩)
  obtain ⟨a_ACCOUNT_LOCKED, ev_ACCOUNT_LOCKED⟩ := exa_v c2
  have E_ACCOUNT_LOCKED : Exa s s.heap a_ACCOUNT_LOCKED "com/example/passwarden/passwarden/core/PolicyError" := Exa.start ev_ACCOUNT_LOCKED c2
  have S_ACCOUNT_LOCKED : Sta s s.heap "com/example/passwarden/passwarden/core/PolicyError" "ACCOUNT_LOCKED" "Lcom/example/passwarden/passwarden/core/PolicyError;" (.ref a_ACCOUNT_LOCKED) := Sta.start ev_ACCOUNT_LOCKED (Or.inr ⟨(hw _ (List.mem_of_getElem? (i := 6) rfl)), (hw _ (List.mem_of_getElem? (i := 58) rfl))⟩)
  obtain ⟨a_MUST_SUPPLY_OLD_PASSWORD, ev_MUST_SUPPLY_OLD_PASSWORD⟩ := exa_v c3
  have E_MUST_SUPPLY_OLD_PASSWORD : Exa s s.heap a_MUST_SUPPLY_OLD_PASSWORD "com/example/passwarden/passwarden/core/PolicyError" := Exa.start ev_MUST_SUPPLY_OLD_PASSWORD c3
  have S_MUST_SUPPLY_OLD_PASSWORD : Sta s s.heap "com/example/passwarden/passwarden/core/PolicyError" "MUST_SUPPLY_OLD_PASSWORD" "Lcom/example/passwarden/passwarden/core/PolicyError;" (.ref a_MUST_SUPPLY_OLD_PASSWORD) := Sta.start ev_MUST_SUPPLY_OLD_PASSWORD (Or.inr ⟨(hw _ (List.mem_of_getElem? (i := 6) rfl)), (hw _ (List.mem_of_getElem? (i := 60) rfl))⟩)
  obtain ⟨a_PASSWORD_TOO_YOUNG, ev_PASSWORD_TOO_YOUNG⟩ := exa_v c4
  have E_PASSWORD_TOO_YOUNG : Exa s s.heap a_PASSWORD_TOO_YOUNG "com/example/passwarden/passwarden/core/PolicyError" := Exa.start ev_PASSWORD_TOO_YOUNG c4
  have S_PASSWORD_TOO_YOUNG : Sta s s.heap "com/example/passwarden/passwarden/core/PolicyError" "PASSWORD_TOO_YOUNG" "Lcom/example/passwarden/passwarden/core/PolicyError;" (.ref a_PASSWORD_TOO_YOUNG) := Sta.start ev_PASSWORD_TOO_YOUNG (Or.inr ⟨(hw _ (List.mem_of_getElem? (i := 6) rfl)), (hw _ (List.mem_of_getElem? (i := 62) rfl))⟩)
  obtain ⟨a_CHANGE_AFTER_RESET, ev_CHANGE_AFTER_RESET⟩ := exa_v c5
  have E_CHANGE_AFTER_RESET : Exa s s.heap a_CHANGE_AFTER_RESET "com/example/passwarden/passwarden/core/PolicyError" := Exa.start ev_CHANGE_AFTER_RESET c5
  have S_CHANGE_AFTER_RESET : Sta s s.heap "com/example/passwarden/passwarden/core/PolicyError" "CHANGE_AFTER_RESET" "Lcom/example/passwarden/passwarden/core/PolicyError;" (.ref a_CHANGE_AFTER_RESET) := Sta.start ev_CHANGE_AFTER_RESET (Or.inr ⟨(hw _ (List.mem_of_getElem? (i := 6) rfl)), (hw _ (List.mem_of_getElem? (i := 64) rfl))⟩)
  obtain ⟨a_PASSWORD_IN_HISTORY, ev_PASSWORD_IN_HISTORY⟩ := exa_v c6
  have E_PASSWORD_IN_HISTORY : Exa s s.heap a_PASSWORD_IN_HISTORY "com/example/passwarden/passwarden/core/PolicyError" := Exa.start ev_PASSWORD_IN_HISTORY c6
  have S_PASSWORD_IN_HISTORY : Sta s s.heap "com/example/passwarden/passwarden/core/PolicyError" "PASSWORD_IN_HISTORY" "Lcom/example/passwarden/passwarden/core/PolicyError;" (.ref a_PASSWORD_IN_HISTORY) := Sta.start ev_PASSWORD_IN_HISTORY (Or.inr ⟨(hw _ (List.mem_of_getElem? (i := 6) rfl)), (hw _ (List.mem_of_getElem? (i := 66) rfl))⟩)
  obtain ⟨a_INSUFFICIENT_PASSWORD_QUALITY, ev_INSUFFICIENT_PASSWORD_QUALITY⟩ := exa_v c7
  have E_INSUFFICIENT_PASSWORD_QUALITY : Exa s s.heap a_INSUFFICIENT_PASSWORD_QUALITY "com/example/passwarden/passwarden/core/PolicyError" := Exa.start ev_INSUFFICIENT_PASSWORD_QUALITY c7
  have S_INSUFFICIENT_PASSWORD_QUALITY : Sta s s.heap "com/example/passwarden/passwarden/core/PolicyError" "INSUFFICIENT_PASSWORD_QUALITY" "Lcom/example/passwarden/passwarden/core/PolicyError;" (.ref a_INSUFFICIENT_PASSWORD_QUALITY) := Sta.start ev_INSUFFICIENT_PASSWORD_QUALITY (Or.inr ⟨(hw _ (List.mem_of_getElem? (i := 6) rfl)), (hw _ (List.mem_of_getElem? (i := 68) rfl))⟩)
  obtain ⟨a_PASSWORD_TOO_SHORT, ev_PASSWORD_TOO_SHORT⟩ := exa_v c8
  have E_PASSWORD_TOO_SHORT : Exa s s.heap a_PASSWORD_TOO_SHORT "com/example/passwarden/passwarden/core/PolicyError" := Exa.start ev_PASSWORD_TOO_SHORT c8
  have S_PASSWORD_TOO_SHORT : Sta s s.heap "com/example/passwarden/passwarden/core/PolicyError" "PASSWORD_TOO_SHORT" "Lcom/example/passwarden/passwarden/core/PolicyError;" (.ref a_PASSWORD_TOO_SHORT) := Sta.start ev_PASSWORD_TOO_SHORT (Or.inr ⟨(hw _ (List.mem_of_getElem? (i := 6) rfl)), (hw _ (List.mem_of_getElem? (i := 70) rfl))⟩)
  obtain ⟨n, o, h1, h2, h3, _, L, rfl, ⟨rfl, N⟩, hq⟩ := own_law l s _ hw tables_1 a_PASSWORD_EXPIRED a_PASSWORD_MOD_NOT_ALLOWED a_ACCOUNT_LOCKED a_MUST_SUPPLY_OLD_PASSWORD a_PASSWORD_TOO_YOUNG a_CHANGE_AFTER_RESET a_PASSWORD_IN_HISTORY a_INSUFFICIENT_PASSWORD_QUALITY a_PASSWORD_TOO_SHORT i0 s.heap s.heap.size ⟨S_PASSWORD_EXPIRED, S_PASSWORD_MOD_NOT_ALLOWED, S_ACCOUNT_LOCKED, S_MUST_SUPPLY_OLD_PASSWORD, S_PASSWORD_TOO_YOUNG, S_CHANGE_AFTER_RESET, S_PASSWORD_IN_HISTORY, S_INSUFFICIENT_PASSWORD_QUALITY, S_PASSWORD_TOO_SHORT, E_PASSWORD_EXPIRED, E_PASSWORD_MOD_NOT_ALLOWED, E_ACCOUNT_LOCKED, E_MUST_SUPPLY_OLD_PASSWORD, E_PASSWORD_TOO_YOUNG, E_CHANGE_AFTER_RESET, E_PASSWORD_IN_HISTORY, E_INSUFFICIENT_PASSWORD_QUALITY, E_PASSWORD_TOO_SHORT⟩ (Nat.le_refl _) p e ha hc hk s m _ below hf ((Spec.applies_iff_loose hf).mp happ).1 ⟨rfl, State.Warmed39.refl s, rfl⟩ trivial
  refine ⟨n, _, h1, h2, h3, hpost _ _ _ _ _ _ ⟨Cond.after_iff.mpr rfl, Cond.after_iff.mpr (eq_i res_at (Term.int_eval (1)) rfl), trivial⟩ ⟨hq.1, hq.2.1, (hq.2.2.sift fun y hy => Or.inr (N y hy)).mono (by decide) (by decide)⟩⟩
theorem main_1_1 : Claimed_1_1 := comes_1 fun _ _ _ _ _ _ h hF => ⟨h.1, hF⟩
theorem main_1_2 : Claimed_1_2 := comes_1 fun _ _ _ _ _ _ h hF => ⟨h.2.1, hF⟩
end Jvm.Pilot.@@N@@
namespace Jvm.Pilot.@@N@@
open Jvm Jvm.ClassFile Sem Op Lib Jvm.Free Jvm.Stand Jvm.Pilot.@@N@@.Jvm.D
/-! MADE BY PROGRAM (witnessworld.py) out of the Statement's table words and the real class files: 11 classes; the members and pool entries that the words name. The judged class is class 1, her method 2. -/
namespace start1
open Jvm.ClassFile
def u (s : String) : CpInfo := .utf8 (stringToUtf16 s)
/-- a pool by its gaps: so many unusable entries, then the entry; so many at the end -/
def gap : Nat → List CpInfo → List CpInfo
  | 0, r => r
  | n + 1, r => .unusable :: gap n r
def poolList (es : List (Nat × CpInfo)) (last : Nat) : List CpInfo := es.foldr (fun e r => gap e.1 (e.2 :: r)) (gap last [])
def pool (es : List (Nat × CpInfo)) (last : Nat) : Array CpInfo := ⟨poolList es last⟩
def fileOf (pool : Array CpInfo) (this : Nat) (attrs : Array Attribute := #[]) (ms : Array MethodInfo := #[]) (fl : Nat := 33) (sup : Nat := 0) (ifs : Array Nat := #[]) (fds : Array FieldInfo := #[]) : ClassFile where
  minorVersion := 0
  majorVersion := 65
  constantPool := pool
  accessFlags := fl
  thisClass := this
  superClass := sup
  interfaces := ifs
  fields := fds
  methods := ms
  attributes := attrs
def plain (name : String) (sup : Option ClassId) : Class where
  name := name
  kind := .ordinary
  loader := none
  accessFlags := 33
  super := sup
  interfaces := #[]
  cf := none
  fields := #[]
  methods := #[]
  instanceTypes := #[]
  staticTypes := #[]
  resolved := #[]
  callSites := []
  init := .initialized
  statics := none
  mirror := none

def pool0 : Array CpInfo := pool [(5, u "<init>"), (0, u "()V"), (1, .class_ 10), (1, u "java/lang/Object")] 113

def k0c0 : Code := { maxStack := 0, maxLocals := 1, code := object_method_1_code, exceptionTable := #[], attributes := #[] }
def k0m0 : Method := { name := "<init>", desc := "()V", sig := { parameters := [], returnType := none }, accessFlags := 1, code := some k0c0 }
/-- java/lang/Object -/
def k0 : Class := { plain "java/lang/Object" none with
  accessFlags := 33
  interfaces := #[]
  cf := some (fileOf pool0 8 #[] #[{ accessFlags := 1, nameIndex := 5, descriptorIndex := 6, attributes := #[] }] 33 0 #[] #[])
  fields := #[]
  methods := #[k0m0]
  instanceTypes := #[]
  staticTypes := #[]
  resolved := Array.replicate 124 none
  statics := none }

def pool1 : Array CpInfo := pool [(2, .class_ 4), (1, u "java/lang/Object"), (0, u "<init>"), (0, u "()V"), (0, .fieldref 8 9), (0, .class_ 10), (0, .nameAndType 11 12), (0, u "com/example/passwarden/passwarden/core/PolicyError"), (0, u "PASSWORD_EXPIRED"), (0, u "Lcom/example/passwarden/passwarden/core/PolicyError;"), (0, .fieldref 8 14), (0, .nameAndType 15 12), (0, u "ACCOUNT_LOCKED"), (0, .fieldref 8 17), (0, .nameAndType 18 12), (0, u "CHANGE_AFTER_RESET"), (0, .fieldref 8 20), (0, .nameAndType 21 12), (0, u "PASSWORD_MOD_NOT_ALLOWED"), (0, .fieldref 8 23), (0, .nameAndType 24 12), (0, u "MUST_SUPPLY_OLD_PASSWORD"), (0, .fieldref 8 26), (0, .nameAndType 27 12), (0, u "INSUFFICIENT_PASSWORD_QUALITY"), (0, .fieldref 8 29), (0, .nameAndType 30 12), (0, u "PASSWORD_TOO_SHORT"), (0, .fieldref 8 32), (0, .nameAndType 33 12), (0, u "PASSWORD_TOO_YOUNG"), (0, .fieldref 8 35), (0, .nameAndType 36 12), (0, u "PASSWORD_IN_HISTORY"), (0, .integer 2147483647), (0, .methodref 39 40), (0, .class_ 41), (0, .nameAndType 42 43), (0, u "com/example/passwarden/passwarden/core/ChangeDecisionRefusedPinLaw"), (0, u "pick"), (0, u "(I)Lcom/example/passwarden/passwarden/core/PolicyError;"), (0, .methodref 45 46), (0, .class_ 47), (0, .nameAndType 48 49), (0, u "com/example/passwarden/passwarden/core/ChangeDecision"), (0, u "refused"), (0, u "(Lcom/example/passwarden/passwarden/core/PolicyError;)Lcom/example/passwarden/passwarden/core/ChangeDecision;"), (0, .methodref 45 51), (0, .nameAndType 52 53), (0, u "isAccepted"), (0, u "()Z"), (0, .methodref 45 55), (0, .nameAndType 56 57), (0, u "getError"), (0, u "()Lcom/example/passwarden/passwarden/core/PolicyError;"), (0, .methodref 45 59), (0, .nameAndType 60 61), (0, u "getStoredPassword"), (0, u "()[B"), (0, .methodref 45 63), (0, .nameAndType 64 65), (0, u "getState"), (0, u "()Lcom/example/passwarden/passwarden/core/AccountState;"), (0, .methodref 45 67), (0, .nameAndType 68 69), (0, u "getHistory"), (0, u "()Lcom/example/passwarden/passwarden/core/PasswordHistory;"), (3, u "law"), (0, u "(I)Z")] 2

def k1m0 : Method := { name := "<init>", desc := "()V", sig := { parameters := [], returnType := none }, accessFlags := 2, code := none }
def k1c1 : Code := { maxStack := 2, maxLocals := 1, code := method_2_code, exceptionTable := #[], attributes := #[] }
def k1m1 : Method := { name := "pick", desc := "(I)Lcom/example/passwarden/passwarden/core/PolicyError;", sig := { parameters := [.int], returnType := some (.object "com/example/passwarden/passwarden/core/PolicyError") }, accessFlags := 10, code := some k1c1 }
def k1c2 : Code := { maxStack := 2, maxLocals := 4, code := code, exceptionTable := #[], attributes := #[] }
def k1m2 : Method := { name := "law", desc := "(I)Z", sig := { parameters := [.int], returnType := some .boolean }, accessFlags := 9, code := some k1c2 }
/-- com/example/passwarden/passwarden/core/ChangeDecisionRefusedPinLaw -/
def k1 : Class := { plain "com/example/passwarden/passwarden/core/ChangeDecisionRefusedPinLaw" (some 0) with
  accessFlags := 49
  interfaces := #[]
  cf := some (fileOf pool1 39 #[] #[{ accessFlags := 2, nameIndex := 5, descriptorIndex := 6, attributes := #[] }, { accessFlags := 10, nameIndex := 42, descriptorIndex := 43, attributes := #[] }, { accessFlags := 9, nameIndex := 73, descriptorIndex := 74, attributes := #[] }] 49 2 #[] #[])
  fields := #[]
  methods := #[k1m0, k1m1, k1m2]
  instanceTypes := #[]
  staticTypes := #[]
  resolved := Array.replicate 77 none
  statics := none }

def pool2 : Array CpInfo := pool [(1, .class_ 2), (0, u "java/lang/constant/Constable"), (0, .class_ 4), (0, u "java/lang/Object")] 6

/-- java/lang/constant/Constable -/
def k2 : Class := { plain "java/lang/constant/Constable" (some 0) with
  accessFlags := 1537
  interfaces := #[]
  cf := some (fileOf pool2 1 #[] #[] 1537 3 #[] #[])
  fields := #[]
  methods := #[]
  instanceTypes := #[]
  staticTypes := #[]
  resolved := Array.replicate 11 none
  statics := none }

def pool3 : Array CpInfo := pool [(1, .class_ 2), (0, u "java/lang/Comparable"), (0, .class_ 4), (0, u "java/lang/Object")] 7

/-- java/lang/Comparable -/
def k3 : Class := { plain "java/lang/Comparable" (some 0) with
  accessFlags := 1537
  interfaces := #[]
  cf := some (fileOf pool3 1 #[] #[] 1537 3 #[] #[])
  fields := #[]
  methods := #[]
  instanceTypes := #[]
  staticTypes := #[]
  resolved := Array.replicate 12 none
  statics := none }

def pool4 : Array CpInfo := pool [(1, .class_ 2), (0, u "java/io/Serializable"), (0, .class_ 4), (0, u "java/lang/Object")] 2

/-- java/io/Serializable -/
def k4 : Class := { plain "java/io/Serializable" (some 0) with
  accessFlags := 1537
  interfaces := #[]
  cf := some (fileOf pool4 1 #[] #[] 1537 3 #[] #[])
  fields := #[]
  methods := #[]
  instanceTypes := #[]
  staticTypes := #[]
  resolved := Array.replicate 7 none
  statics := none }

def pool5 : Array CpInfo := pool [(2, .class_ 4), (1, u "java/lang/Enum"), (0, u "name"), (0, u "Ljava/lang/String;"), (2, u "ordinal"), (0, u "I"), (1, .class_ 14), (1, u "java/lang/Object"), (4, u "hash"), (86, .class_ 108), (1, u "java/lang/Enum$EnumDesc"), (2, .class_ 112), (0, u "java/lang/constant/Constable"), (0, .class_ 114), (0, u "java/lang/Comparable"), (0, .class_ 116), (0, u "java/io/Serializable")] 87

/-- java/lang/Enum -/
def k5 : Class := { plain "java/lang/Enum" (some 0) with
  accessFlags := 1057
  interfaces := #[2, 3, 4]
  cf := some (fileOf pool5 2 #[.nestMembers #[106]] #[] 1057 12 #[111, 113, 115] #[{ accessFlags := 18, nameIndex := 5, descriptorIndex := 6, attributes := #[] }, { accessFlags := 18, nameIndex := 9, descriptorIndex := 10, attributes := #[] }, { accessFlags := 2, nameIndex := 19, descriptorIndex := 10, attributes := #[] }])
  fields := #[{ name := "name", type := (.object "java/lang/String"), accessFlags := 18, slot := 0, constantValue := 0 }, { name := "ordinal", type := .int, accessFlags := 18, slot := 1, constantValue := 0 }, { name := "hash", type := .int, accessFlags := 2, slot := 2, constantValue := 0 }]
  methods := #[]
  instanceTypes := #[(.object "java/lang/String"), .int, .int]
  staticTypes := #[]
  resolved := Array.replicate 204 none
  statics := none }

def pool6 : Array CpInfo := pool [(1, .class_ 2), (0, u "com/example/passwarden/passwarden/core/PolicyError"), (2, u "PASSWORD_EXPIRED"), (0, u "Lcom/example/passwarden/passwarden/core/PolicyError;"), (2, u "ACCOUNT_LOCKED"), (2, u "CHANGE_AFTER_RESET"), (2, u "PASSWORD_MOD_NOT_ALLOWED"), (2, u "MUST_SUPPLY_OLD_PASSWORD"), (2, u "INSUFFICIENT_PASSWORD_QUALITY"), (2, u "PASSWORD_TOO_SHORT"), (2, u "PASSWORD_TOO_YOUNG"), (2, u "PASSWORD_IN_HISTORY"), (2, u "$VALUES"), (0, u "[Lcom/example/passwarden/passwarden/core/PolicyError;"), (6, .class_ 43), (1, u "java/lang/Enum"), (8, u "code"), (0, u "I")] 30

/-- com/example/passwarden/passwarden/core/PolicyError -/
def k6 : Class := { plain "com/example/passwarden/passwarden/core/PolicyError" (some 5) with
  accessFlags := 16433
  interfaces := #[]
  cf := some (fileOf pool6 1 #[] #[] 16433 41 #[] #[{ accessFlags := 16409, nameIndex := 5, descriptorIndex := 6, attributes := #[] }, { accessFlags := 16409, nameIndex := 9, descriptorIndex := 6, attributes := #[] }, { accessFlags := 16409, nameIndex := 12, descriptorIndex := 6, attributes := #[] }, { accessFlags := 16409, nameIndex := 15, descriptorIndex := 6, attributes := #[] }, { accessFlags := 16409, nameIndex := 18, descriptorIndex := 6, attributes := #[] }, { accessFlags := 16409, nameIndex := 21, descriptorIndex := 6, attributes := #[] }, { accessFlags := 16409, nameIndex := 24, descriptorIndex := 6, attributes := #[] }, { accessFlags := 16409, nameIndex := 27, descriptorIndex := 6, attributes := #[] }, { accessFlags := 16409, nameIndex := 30, descriptorIndex := 6, attributes := #[] }, { accessFlags := 18, nameIndex := 52, descriptorIndex := 53, attributes := #[] }, { accessFlags := 4122, nameIndex := 33, descriptorIndex := 34, attributes := #[] }])
  fields := #[{ name := "PASSWORD_EXPIRED", type := (.object "com/example/passwarden/passwarden/core/PolicyError"), accessFlags := 16409, slot := 0, constantValue := 0 }, { name := "ACCOUNT_LOCKED", type := (.object "com/example/passwarden/passwarden/core/PolicyError"), accessFlags := 16409, slot := 1, constantValue := 0 }, { name := "CHANGE_AFTER_RESET", type := (.object "com/example/passwarden/passwarden/core/PolicyError"), accessFlags := 16409, slot := 2, constantValue := 0 }, { name := "PASSWORD_MOD_NOT_ALLOWED", type := (.object "com/example/passwarden/passwarden/core/PolicyError"), accessFlags := 16409, slot := 3, constantValue := 0 }, { name := "MUST_SUPPLY_OLD_PASSWORD", type := (.object "com/example/passwarden/passwarden/core/PolicyError"), accessFlags := 16409, slot := 4, constantValue := 0 }, { name := "INSUFFICIENT_PASSWORD_QUALITY", type := (.object "com/example/passwarden/passwarden/core/PolicyError"), accessFlags := 16409, slot := 5, constantValue := 0 }, { name := "PASSWORD_TOO_SHORT", type := (.object "com/example/passwarden/passwarden/core/PolicyError"), accessFlags := 16409, slot := 6, constantValue := 0 }, { name := "PASSWORD_TOO_YOUNG", type := (.object "com/example/passwarden/passwarden/core/PolicyError"), accessFlags := 16409, slot := 7, constantValue := 0 }, { name := "PASSWORD_IN_HISTORY", type := (.object "com/example/passwarden/passwarden/core/PolicyError"), accessFlags := 16409, slot := 8, constantValue := 0 }, { name := "code", type := .int, accessFlags := 18, slot := 3, constantValue := 0 }, { name := "$VALUES", type := (.array (.object "com/example/passwarden/passwarden/core/PolicyError")), accessFlags := 4122, slot := 9, constantValue := 0 }]
  methods := #[]
  instanceTypes := #[(.object "java/lang/String"), .int, .int, .int]
  staticTypes := #[(.object "com/example/passwarden/passwarden/core/PolicyError"), (.object "com/example/passwarden/passwarden/core/PolicyError"), (.object "com/example/passwarden/passwarden/core/PolicyError"), (.object "com/example/passwarden/passwarden/core/PolicyError"), (.object "com/example/passwarden/passwarden/core/PolicyError"), (.object "com/example/passwarden/passwarden/core/PolicyError"), (.object "com/example/passwarden/passwarden/core/PolicyError"), (.object "com/example/passwarden/passwarden/core/PolicyError"), (.object "com/example/passwarden/passwarden/core/PolicyError"), (.array (.object "com/example/passwarden/passwarden/core/PolicyError"))]
  resolved := Array.replicate 84 none
  statics := some 0 }

def pool7 : Array CpInfo := pool [(1, .methodref 2 3), (0, .class_ 4), (0, .nameAndType 5 6), (0, u "java/lang/Object"), (0, u "<init>"), (0, u "()V"), (0, .fieldref 8 9), (0, .class_ 10), (0, .nameAndType 11 12), (0, u "com/example/passwarden/passwarden/core/ChangeDecision"), (0, u "accepted"), (0, u "Z"), (0, .fieldref 8 14), (0, .nameAndType 15 16), (0, u "error"), (0, u "Lcom/example/passwarden/passwarden/core/PolicyError;"), (0, .fieldref 8 18), (0, .nameAndType 19 20), (0, u "storedPassword"), (0, u "[B"), (0, .fieldref 8 22), (0, .nameAndType 23 24), (0, u "state"), (0, u "Lcom/example/passwarden/passwarden/core/AccountState;"), (0, .fieldref 8 26), (0, .nameAndType 27 28), (0, u "history"), (0, u "Lcom/example/passwarden/passwarden/core/PasswordHistory;"), (0, .methodref 8 30), (0, .nameAndType 5 31), (0, u "(ZLcom/example/passwarden/passwarden/core/PolicyError;[BLcom/example/passwarden/passwarden/core/AccountState;Lcom/example/passwarden/passwarden/core/PasswordHistory;)V"), (3, u "refused"), (0, u "(Lcom/example/passwarden/passwarden/core/PolicyError;)Lcom/example/passwarden/passwarden/core/ChangeDecision;"), (0, u "isAccepted"), (0, u "()Z"), (0, u "getError"), (0, u "()Lcom/example/passwarden/passwarden/core/PolicyError;"), (0, u "getStoredPassword"), (0, u "()[B"), (0, u "getState"), (0, u "()Lcom/example/passwarden/passwarden/core/AccountState;"), (0, u "getHistory"), (0, u "()Lcom/example/passwarden/passwarden/core/PasswordHistory;")] 2

def k7c0 : Code := { maxStack := 2, maxLocals := 6, code := prog_4_method_1_code, exceptionTable := #[], attributes := #[] }
def k7m0 : Method := { name := "<init>", desc := "(ZLcom/example/passwarden/passwarden/core/PolicyError;[BLcom/example/passwarden/passwarden/core/AccountState;Lcom/example/passwarden/passwarden/core/PasswordHistory;)V", sig := { parameters := [.boolean, (.object "com/example/passwarden/passwarden/core/PolicyError"), (.array .byte), (.object "com/example/passwarden/passwarden/core/AccountState"), (.object "com/example/passwarden/passwarden/core/PasswordHistory")], returnType := none }, accessFlags := 2, code := some k7c0 }
def k7c1 : Code := { maxStack := 7, maxLocals := 1, code := prog_4_method_3_code, exceptionTable := #[], attributes := #[] }
def k7m1 : Method := { name := "refused", desc := "(Lcom/example/passwarden/passwarden/core/PolicyError;)Lcom/example/passwarden/passwarden/core/ChangeDecision;", sig := { parameters := [(.object "com/example/passwarden/passwarden/core/PolicyError")], returnType := some (.object "com/example/passwarden/passwarden/core/ChangeDecision") }, accessFlags := 8, code := some k7c1 }
def k7c2 : Code := { maxStack := 1, maxLocals := 1, code := prog_4_method_4_code, exceptionTable := #[], attributes := #[] }
def k7m2 : Method := { name := "isAccepted", desc := "()Z", sig := { parameters := [], returnType := some .boolean }, accessFlags := 1, code := some k7c2 }
def k7c3 : Code := { maxStack := 1, maxLocals := 1, code := prog_4_method_5_code, exceptionTable := #[], attributes := #[] }
def k7m3 : Method := { name := "getError", desc := "()Lcom/example/passwarden/passwarden/core/PolicyError;", sig := { parameters := [], returnType := some (.object "com/example/passwarden/passwarden/core/PolicyError") }, accessFlags := 1, code := some k7c3 }
def k7c4 : Code := { maxStack := 1, maxLocals := 1, code := prog_4_method_6_code, exceptionTable := #[], attributes := #[] }
def k7m4 : Method := { name := "getStoredPassword", desc := "()[B", sig := { parameters := [], returnType := some (.array .byte) }, accessFlags := 1, code := some k7c4 }
def k7c5 : Code := { maxStack := 1, maxLocals := 1, code := prog_4_method_7_code, exceptionTable := #[], attributes := #[] }
def k7m5 : Method := { name := "getState", desc := "()Lcom/example/passwarden/passwarden/core/AccountState;", sig := { parameters := [], returnType := some (.object "com/example/passwarden/passwarden/core/AccountState") }, accessFlags := 1, code := some k7c5 }
def k7c6 : Code := { maxStack := 1, maxLocals := 1, code := prog_4_method_8_code, exceptionTable := #[], attributes := #[] }
def k7m6 : Method := { name := "getHistory", desc := "()Lcom/example/passwarden/passwarden/core/PasswordHistory;", sig := { parameters := [], returnType := some (.object "com/example/passwarden/passwarden/core/PasswordHistory") }, accessFlags := 1, code := some k7c6 }
/-- com/example/passwarden/passwarden/core/ChangeDecision -/
def k7 : Class := { plain "com/example/passwarden/passwarden/core/ChangeDecision" (some 0) with
  accessFlags := 49
  interfaces := #[]
  cf := some (fileOf pool7 8 #[] #[{ accessFlags := 2, nameIndex := 5, descriptorIndex := 31, attributes := #[] }, { accessFlags := 8, nameIndex := 35, descriptorIndex := 36, attributes := #[] }, { accessFlags := 1, nameIndex := 37, descriptorIndex := 38, attributes := #[] }, { accessFlags := 1, nameIndex := 39, descriptorIndex := 40, attributes := #[] }, { accessFlags := 1, nameIndex := 41, descriptorIndex := 42, attributes := #[] }, { accessFlags := 1, nameIndex := 43, descriptorIndex := 44, attributes := #[] }, { accessFlags := 1, nameIndex := 45, descriptorIndex := 46, attributes := #[] }] 49 2 #[] #[{ accessFlags := 18, nameIndex := 11, descriptorIndex := 12, attributes := #[] }, { accessFlags := 18, nameIndex := 15, descriptorIndex := 16, attributes := #[] }, { accessFlags := 18, nameIndex := 19, descriptorIndex := 20, attributes := #[] }, { accessFlags := 18, nameIndex := 23, descriptorIndex := 24, attributes := #[] }, { accessFlags := 18, nameIndex := 27, descriptorIndex := 28, attributes := #[] }])
  fields := #[{ name := "accepted", type := .boolean, accessFlags := 18, slot := 0, constantValue := 0 }, { name := "error", type := (.object "com/example/passwarden/passwarden/core/PolicyError"), accessFlags := 18, slot := 1, constantValue := 0 }, { name := "storedPassword", type := (.array .byte), accessFlags := 18, slot := 2, constantValue := 0 }, { name := "state", type := (.object "com/example/passwarden/passwarden/core/AccountState"), accessFlags := 18, slot := 3, constantValue := 0 }, { name := "history", type := (.object "com/example/passwarden/passwarden/core/PasswordHistory"), accessFlags := 18, slot := 4, constantValue := 0 }]
  methods := #[k7m0, k7m1, k7m2, k7m3, k7m4, k7m5, k7m6]
  instanceTypes := #[.boolean, (.object "com/example/passwarden/passwarden/core/PolicyError"), (.array .byte), (.object "com/example/passwarden/passwarden/core/AccountState"), (.object "com/example/passwarden/passwarden/core/PasswordHistory")]
  staticTypes := #[]
  resolved := Array.replicate 49 none
  statics := none }

def pool8 : Array CpInfo := pool [(1, u "java/lang/Cloneable"), (0, .class_ 1), (0, u "java/lang/Object"), (0, .class_ 3)] 3

/-- java/lang/Cloneable -/
def k8 : Class := { plain "java/lang/Cloneable" (some 0) with
  accessFlags := 1537
  interfaces := #[]
  cf := some (fileOf pool8 2 #[] #[] 1537 4 #[] #[])
  fields := #[]
  methods := #[]
  instanceTypes := #[]
  staticTypes := #[]
  resolved := Array.replicate 8 none
  statics := none }

/-- the primitive byte -/
def k9 : Class := { plain "byte" none with kind := .primitive 'B', accessFlags := 0x411 }
/-- [B -/
def k10 : Class := { plain "[B" (some 0) with kind := .array 9 .byte, interfaces := #[8, 4], accessFlags := 1041 }

def heap : Heap := #[{ cls := 6, slots := #[.ref 1, .ref 3, .ref 6, .ref 2, .ref 4, .ref 8, .ref 9, .ref 5, .ref 7, .null], vm := .statics 6 },
  { cls := 6, slots := #[.null, .int 0, .int 0, .int 0], vm := .none },
  { cls := 6, slots := #[.null, .int 1, .int 0, .int 0], vm := .none },
  { cls := 6, slots := #[.null, .int 2, .int 0, .int 0], vm := .none },
  { cls := 6, slots := #[.null, .int 3, .int 0, .int 0], vm := .none },
  { cls := 6, slots := #[.null, .int 4, .int 0, .int 0], vm := .none },
  { cls := 6, slots := #[.null, .int 5, .int 0, .int 0], vm := .none },
  { cls := 6, slots := #[.null, .int 6, .int 0, .int 0], vm := .none },
  { cls := 6, slots := #[.null, .int 7, .int 0, .int 0], vm := .none },
  { cls := 6, slots := #[.null, .int 8, .int 0, .int 0], vm := .none }]
def classes : Array Class := #[k0, k1, k2, k3, k4, k5, k6, k7, k8, k9, k10]
def interned : List (Array UInt16 × Addr) := []
def slotsUsed : Nat := 46
def theMethod : MethodId := ⟨1, 2⟩
def args0 : Array Value := #[.int 5]
def aboutOver (below : List Frame) : State where
  vm := { classes := classes, interned := interned.toArray }
  heap := heap
  slotsUsed := slotsUsed
  threads := #[{ frames := .invoking theMethod args0 :: below }]
def below0 : List Frame := [.native { method := ⟨0, 0⟩, args := #[] }]
def about1 : State := aboutOver below0
def p0 : Program := .bare "" "" ""
def e0 : Env := launch0.env 0 0 0
theorem w_frames : about1.frames = Frame.invoking theMethod args0 :: below0 := rfl
set_option maxRecDepth 65536 in
theorem w_args : argsFit about1.vm theMethod args0 = true := by decide +kernel
set_option maxRecDepth 65536 in
theorem w_heap : heapFits about1 = true := by decide +kernel
set_option maxRecDepth 65536 in
theorem w_runnable : about1.curStatus? = some .runnable := by decide +kernel
set_option maxRecDepth 65536 in
theorem w_alone : about1.alone = true := by decide +kernel
set_option maxRecDepth 65536 in
theorem w_named : about1.methodNamed? x = some theMethod := by decide +kernel
set_option maxRecDepth 65536 in
theorem w_hears : about1.hears theMethod below0 = true := by decide +kernel
set_option maxRecDepth 65536 in
theorem w_ripe : about1.ripe theMethod args0 below0 = true := by decide +kernel
theorem w_running : about1.status = .running := rfl
set_option maxRecDepth 65536 in
theorem w_room : about1.hasRoom e0.platform room_1 = true :=
  launch0.hasRoom_least _ room_1 (by decide +kernel) (by decide +kernel) (by decide +kernel) (by decide +kernel) (by decide +kernel) (by decide +kernel)
theorem allAtoms_all (ts : List Jvm.Cond) (a : Array Jvm.Value) (st : Jvm.State) : (allAtoms ts).before a st = ts.all (fun c => c.before a st) := by
  induction ts with
  | nil => rfl
  | cons c t ih =>
    show (Jvm.Cond.and c (allAtoms t)).before a st = _
    rw [Jvm.Cond.before_and, ih, List.all_cons]
def words1 : List Jvm.Cond := Jvm.Cond.code x code maxLocals ret :: tables_1
/-- a 'code' word, met by the world's own term for the bytes: nothing is compared byte by byte -/
theorem code_word {y : MethodName} {bytes : ByteArray} {mx : Nat} {rt : Option FieldType} {a : Array Value} {s : State} {m : MethodId} {meth : Method} {c : Code} (h1 : s.methodNamed? y = some m) (h2 : s.vm.method? m = some meth) (h3 : meth.code = some c) (h4 : c.code = bytes)
    (h5 : (c.maxLocals == mx && c.exceptionTable.isEmpty && decide (c.maxStack ≤ mostOperands) && decide (meth.sig.returnType = rt) && !meth.locks && decide (parseMethodDescriptor y.desc = some meth.sig)) = true) : (Jvm.Cond.code y bytes mx rt).before a s = true := by
  simp only [Bool.and_eq_true, beq_iff_eq, Bool.not_eq_true', decide_eq_true_eq] at h5
  obtain ⟨⟨⟨⟨⟨g1, g2⟩, g3⟩, g4⟩, g5⟩, g6⟩ := h5
  simp [Cond.before, Cond.holds, Cond.value, h1, h2, h3, h4, g1, g2, g3, g4, g5, g6]
def isCode : Jvm.Cond → Bool
  | .code _ _ _ _ => true
  | _ => false
theorem all_split {L : List Jvm.Cond} {P : Jvm.Cond → Bool} (h1 : L.all (fun c => isCode c || P c) = true) (h2 : ∀ c ∈ L.filter isCode, P c = true) : L.all P = true := by
  refine List.all_eq_true.mpr fun c hc => ?_
  have h := List.all_eq_true.mp h1 c hc
  rcases Bool.eq_false_or_eq_true (isCode c) with hi | hi
  · exact h2 c (List.mem_filter.mpr ⟨hc, hi⟩)
  · simpa [hi] using h
set_option maxRecDepth 65536 in
theorem w_c0 : (Jvm.Cond.code x code maxLocals ret).before args0 about1 = true := code_word (m := ⟨1, 2⟩) (meth := k1m2) (c := k1c2) (by decide +kernel) rfl rfl rfl (by decide +kernel)
set_option maxRecDepth 65536 in
theorem w_c1 : (Jvm.Cond.code ({ cls := "com/example/passwarden/passwarden/core/ChangeDecisionRefusedPinLaw", name := "pick", desc := "(I)Lcom/example/passwarden/passwarden/core/PolicyError;" } : Jvm.MethodName) method_2_code (1 : Nat) (Option.some (Jvm.ClassFile.FieldType.object "com/example/passwarden/passwarden/core/PolicyError"))).before args0 about1 = true := code_word (m := ⟨1, 1⟩) (meth := k1m1) (c := k1c1) (by decide +kernel) rfl rfl rfl (by decide +kernel)
set_option maxRecDepth 65536 in
theorem w_c2 : (Jvm.Cond.code ({ cls := "com/example/passwarden/passwarden/core/ChangeDecision", name := "refused", desc := "(Lcom/example/passwarden/passwarden/core/PolicyError;)Lcom/example/passwarden/passwarden/core/ChangeDecision;" } : Jvm.MethodName) prog_4_method_3_code (1 : Nat) (Option.some (Jvm.ClassFile.FieldType.object "com/example/passwarden/passwarden/core/ChangeDecision"))).before args0 about1 = true := code_word (m := ⟨7, 1⟩) (meth := k7m1) (c := k7c1) (by decide +kernel) rfl rfl rfl (by decide +kernel)
set_option maxRecDepth 65536 in
theorem w_c3 : (Jvm.Cond.code ({ cls := "com/example/passwarden/passwarden/core/ChangeDecision", name := "<init>", desc := "(ZLcom/example/passwarden/passwarden/core/PolicyError;[BLcom/example/passwarden/passwarden/core/AccountState;Lcom/example/passwarden/passwarden/core/PasswordHistory;)V" } : Jvm.MethodName) prog_4_method_1_code (6 : Nat) (Option.none : Option Jvm.ClassFile.FieldType)).before args0 about1 = true := code_word (m := ⟨7, 0⟩) (meth := k7m0) (c := k7c0) (by decide +kernel) rfl rfl rfl (by decide +kernel)
set_option maxRecDepth 65536 in
theorem w_c4 : (Jvm.Cond.code ({ cls := "java/lang/Object", name := "<init>", desc := "()V" } : Jvm.MethodName) object_method_1_code (1 : Nat) (Option.none : Option Jvm.ClassFile.FieldType)).before args0 about1 = true := code_word (m := ⟨0, 0⟩) (meth := k0m0) (c := k0c0) (by decide +kernel) rfl rfl rfl (by decide +kernel)
set_option maxRecDepth 65536 in
theorem w_c5 : (Jvm.Cond.code ({ cls := "com/example/passwarden/passwarden/core/ChangeDecision", name := "isAccepted", desc := "()Z" } : Jvm.MethodName) prog_4_method_4_code (1 : Nat) (Option.some Jvm.ClassFile.FieldType.boolean)).before args0 about1 = true := code_word (m := ⟨7, 2⟩) (meth := k7m2) (c := k7c2) (by decide +kernel) rfl rfl rfl (by decide +kernel)
set_option maxRecDepth 65536 in
theorem w_c6 : (Jvm.Cond.code ({ cls := "com/example/passwarden/passwarden/core/ChangeDecision", name := "getError", desc := "()Lcom/example/passwarden/passwarden/core/PolicyError;" } : Jvm.MethodName) prog_4_method_5_code (1 : Nat) (Option.some (Jvm.ClassFile.FieldType.object "com/example/passwarden/passwarden/core/PolicyError"))).before args0 about1 = true := code_word (m := ⟨7, 3⟩) (meth := k7m3) (c := k7c3) (by decide +kernel) rfl rfl rfl (by decide +kernel)
set_option maxRecDepth 65536 in
theorem w_c7 : (Jvm.Cond.code ({ cls := "com/example/passwarden/passwarden/core/ChangeDecision", name := "getStoredPassword", desc := "()[B" } : Jvm.MethodName) prog_4_method_6_code (1 : Nat) (Option.some (Jvm.ClassFile.FieldType.array Jvm.ClassFile.FieldType.byte))).before args0 about1 = true := code_word (m := ⟨7, 4⟩) (meth := k7m4) (c := k7c4) (by decide +kernel) rfl rfl rfl (by decide +kernel)
set_option maxRecDepth 65536 in
theorem w_c8 : (Jvm.Cond.code ({ cls := "com/example/passwarden/passwarden/core/ChangeDecision", name := "getState", desc := "()Lcom/example/passwarden/passwarden/core/AccountState;" } : Jvm.MethodName) prog_4_method_7_code (1 : Nat) (Option.some (Jvm.ClassFile.FieldType.object "com/example/passwarden/passwarden/core/AccountState"))).before args0 about1 = true := code_word (m := ⟨7, 5⟩) (meth := k7m5) (c := k7c5) (by decide +kernel) rfl rfl rfl (by decide +kernel)
set_option maxRecDepth 65536 in
theorem w_c9 : (Jvm.Cond.code ({ cls := "com/example/passwarden/passwarden/core/ChangeDecision", name := "getHistory", desc := "()Lcom/example/passwarden/passwarden/core/PasswordHistory;" } : Jvm.MethodName) prog_4_method_8_code (1 : Nat) (Option.some (Jvm.ClassFile.FieldType.object "com/example/passwarden/passwarden/core/PasswordHistory"))).before args0 about1 = true := code_word (m := ⟨7, 6⟩) (meth := k7m6) (c := k7c6) (by decide +kernel) rfl rfl rfl (by decide +kernel)
def codes1 : List Jvm.Cond := [Jvm.Cond.code x code maxLocals ret, Jvm.Cond.code ({ cls := "com/example/passwarden/passwarden/core/ChangeDecisionRefusedPinLaw", name := "pick", desc := "(I)Lcom/example/passwarden/passwarden/core/PolicyError;" } : Jvm.MethodName) method_2_code (1 : Nat) (Option.some (Jvm.ClassFile.FieldType.object "com/example/passwarden/passwarden/core/PolicyError")), Jvm.Cond.code ({ cls := "com/example/passwarden/passwarden/core/ChangeDecision", name := "refused", desc := "(Lcom/example/passwarden/passwarden/core/PolicyError;)Lcom/example/passwarden/passwarden/core/ChangeDecision;" } : Jvm.MethodName) prog_4_method_3_code (1 : Nat) (Option.some (Jvm.ClassFile.FieldType.object "com/example/passwarden/passwarden/core/ChangeDecision")), Jvm.Cond.code ({ cls := "com/example/passwarden/passwarden/core/ChangeDecision", name := "<init>", desc := "(ZLcom/example/passwarden/passwarden/core/PolicyError;[BLcom/example/passwarden/passwarden/core/AccountState;Lcom/example/passwarden/passwarden/core/PasswordHistory;)V" } : Jvm.MethodName) prog_4_method_1_code (6 : Nat) (Option.none : Option Jvm.ClassFile.FieldType), Jvm.Cond.code ({ cls := "java/lang/Object", name := "<init>", desc := "()V" } : Jvm.MethodName) object_method_1_code (1 : Nat) (Option.none : Option Jvm.ClassFile.FieldType), Jvm.Cond.code ({ cls := "com/example/passwarden/passwarden/core/ChangeDecision", name := "isAccepted", desc := "()Z" } : Jvm.MethodName) prog_4_method_4_code (1 : Nat) (Option.some Jvm.ClassFile.FieldType.boolean), Jvm.Cond.code ({ cls := "com/example/passwarden/passwarden/core/ChangeDecision", name := "getError", desc := "()Lcom/example/passwarden/passwarden/core/PolicyError;" } : Jvm.MethodName) prog_4_method_5_code (1 : Nat) (Option.some (Jvm.ClassFile.FieldType.object "com/example/passwarden/passwarden/core/PolicyError")), Jvm.Cond.code ({ cls := "com/example/passwarden/passwarden/core/ChangeDecision", name := "getStoredPassword", desc := "()[B" } : Jvm.MethodName) prog_4_method_6_code (1 : Nat) (Option.some (Jvm.ClassFile.FieldType.array Jvm.ClassFile.FieldType.byte)), Jvm.Cond.code ({ cls := "com/example/passwarden/passwarden/core/ChangeDecision", name := "getState", desc := "()Lcom/example/passwarden/passwarden/core/AccountState;" } : Jvm.MethodName) prog_4_method_7_code (1 : Nat) (Option.some (Jvm.ClassFile.FieldType.object "com/example/passwarden/passwarden/core/AccountState")), Jvm.Cond.code ({ cls := "com/example/passwarden/passwarden/core/ChangeDecision", name := "getHistory", desc := "()Lcom/example/passwarden/passwarden/core/PasswordHistory;" } : Jvm.MethodName) prog_4_method_8_code (1 : Nat) (Option.some (Jvm.ClassFile.FieldType.object "com/example/passwarden/passwarden/core/PasswordHistory"))]
set_option maxRecDepth 65536 in
theorem codes_eq : words1.filter isCode = codes1 := rfl
theorem w_codes : ∀ c ∈ words1.filter isCode, c.before args0 about1 = true := by
  rw [codes_eq]
  intro c hc
  simp only [codes1, List.mem_cons, List.not_mem_nil, or_false] at hc
  rcases hc with rfl | rfl | rfl | rfl | rfl | rfl | rfl | rfl | rfl | rfl
  · exact w_c0
  · exact w_c1
  · exact w_c2
  · exact w_c3
  · exact w_c4
  · exact w_c5
  · exact w_c6
  · exact w_c7
  · exact w_c8
  · exact w_c9
set_option maxRecDepth 65536 in
theorem w_t1 : (words1.take 24).all (fun c => isCode c || c.before args0 about1) = true := by decide +kernel
set_option maxRecDepth 65536 in
theorem w_t2 : ((words1.drop 24).take 24).all (fun c => isCode c || c.before args0 about1) = true := by decide +kernel
set_option maxRecDepth 65536 in
theorem w_t3 : ((words1.drop 24).drop 24).all (fun c => isCode c || c.before args0 about1) = true := by decide +kernel
theorem w_tables : (allAtoms (Jvm.Cond.code x code maxLocals ret :: tables_1)).before args0 about1 = true := by
  rw [allAtoms_all]
  show words1.all (fun c => c.before args0 about1) = true
  refine all_split ?_ w_codes
  rw [← List.take_append_drop 24 words1, List.all_append, w_t1, ← List.take_append_drop 24 (words1.drop 24), List.all_append, w_t2, w_t3]
  rfl
set_option maxRecDepth 65536 in
theorem w_case : (Jvm.Cond.and given_1 narrow_1).before args0 about1 = true := by decide +kernel
theorem w_applies : (headSpec (Jvm.Cond.code x code maxLocals ret :: tables_1) room_1).applies x e0.platform about1 = true :=
  (Spec.applies_iff w_frames).mpr ⟨w_running, w_runnable, w_alone, w_named, w_hears, w_ripe, w_room, w_tables⟩
theorem atStart : AtStart classFile x code maxLocals ret World_1 tables_1 room_1 Calls_1 rest_1 Pre_1 launch0 p0 e0 about1 theMethod args0 below0 :=
  ⟨lists_1, trivial, launch0.admits_env _ _ _, launch0.least_env, fairChoices_fair.cas, fairChoices_fair.clock, w_frames, w_args, w_heap, w_applies, trivial, trivial, w_case⟩
end start1
theorem witness_1 : WitnessClaimed_1 := ⟨start1.p0, start1.e0, start1.about1, start1.theMethod, start1.args0, start1.below0, start1.atStart⟩
end Jvm.Pilot.@@N@@
