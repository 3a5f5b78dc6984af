import JvmDerived
import JvmDerived.Pilot.@@N@@Statement
import JvmDerived.Pilot.@@N@@Code
set_option linter.unusedVariables false
set_option linter.unusedSimpArgs false
namespace Jvm.RoadKit
open Sem ClassFile Op Lib Jvm.Stand Jvm.Free Jvm.LawKit
section New
variable {p : Program} {l : Launch} {e : Env} {R : Room} {s : State} {m : MethodId} {args : Array Value} {below : List Frame} {meth : Method} {c : Code} {T : State} {locs : List Loc} {cells slots : Nat}
theorem own_retI (X : Stand p l e R s m args below meth c T locs cells slots) (hx : p.tables.exec = Jvm.exec) {pc : Nat} {Ls : Array Slot} {z : Int32} {rest : List Value} (hret : meth.sig.returnType = some .int) (hd : decode c.code pc = .ok (.ireturn, 1)) {fs : List Frame}
    (hl : ∀ (f : JFrame) (acts : List Action), f.method = m → f.locked = none → f.entered = [] → (doReturn e (T.setTop f) acts (some (.int z))).1 = T.setFrames fs) : Steps p.tables e below (T.setTop (mkF m pc Ls (.int z :: rest))) (T.setFrames fs) :=
  retOut X hx hret rfl (Or.inl ⟨rfl, Or.inl rfl, z, rfl⟩) hd hl
theorem own_retL (X : Stand p l e R s m args below meth c T locs cells slots) (hx : p.tables.exec = Jvm.exec) {pc : Nat} {Ls : Array Slot} {z : Int64} {rest : List Value} (hret : meth.sig.returnType = some .long) (hd : decode c.code pc = .ok (.lreturn, 1)) {fs : List Frame}
    (hl : ∀ (f : JFrame) (acts : List Action), f.method = m → f.locked = none → f.entered = [] → (doReturn e (T.setTop f) acts (some (.long z))).1 = T.setFrames fs) : Steps p.tables e below (T.setTop (mkF m pc Ls (.long z :: rest))) (T.setFrames fs) :=
  retOut X hx hret rfl (Or.inr (Or.inl ⟨rfl, rfl, z, rfl⟩)) hd hl
theorem own_retA (X : Stand p l e R s m args below meth c T locs cells slots) (hx : p.tables.exec = Jvm.exec) {pc : Nat} {Ls : Array Slot} {w : Value} {t : FieldType} {rest : List Value} (hret : meth.sig.returnType = some t) (ht : t.isReference = true) (hw : w.isRef = true) (hd : decode c.code pc = .ok (.areturn, 1)) {fs : List Frame}
    (hl : ∀ (f : JFrame) (acts : List Action), f.method = m → f.locked = none → f.entered = [] → (doReturn e (T.setTop f) acts (some w)).1 = T.setFrames fs) : Steps p.tables e below (T.setTop (mkF m pc Ls (w :: rest))) (T.setFrames fs) :=
  retOut X hx hret (by cases t <;> cases w <;> simp_all [narrow, Value.isRef, FieldType.isReference]) (Or.inr (Or.inr (Or.inr (Or.inr ⟨rfl, ht, hw⟩)))) hd hl
end New
end Jvm.RoadKit
namespace Jvm.Pilot.@@N@@
open Jvm Jvm.ClassFile Sem Op Lib Jvm.Free Jvm.Stand Jvm.LawKit Jvm.RoadKit Bundle Jvm.Pilot.@@N@@.Jvm.D
theorem own_lcEt {x y : Int64} (h : x = y) : lcmpW x y = (0 : Int32) := by rw [lcW]; exact (lc_eq x y).mpr h
theorem own_lcEf {x y : Int64} (h : ¬ (x = y)) : ¬ (lcmpW x y = (0 : Int32)) := by rw [lcW]; exact fun q => h ((lc_eq x y).mp q)
theorem own_lcLt {x y : Int64} (h : x < y) : lcmpW x y < (0 : Int32) := by rw [lcW]; exact (lc_lt x y).mpr h
theorem own_lcLf {x y : Int64} (h : ¬ (x < y)) : ¬ (lcmpW x y < (0 : Int32)) := by rw [lcW]; exact fun q => h ((lc_lt x y).mp q)
theorem own_lcGt {x y : Int64} (h : y < x) : (0 : Int32) < lcmpW x y := by rw [lcW]; exact (lc_gt x y).mpr h
theorem own_lcGf {x y : Int64} (h : ¬ (y < x)) : ¬ ((0 : Int32) < lcmpW x y) := by rw [lcW]; exact fun q => h ((lc_gt x y).mp q)
theorem own_ext_refl (h : Heap) : Ext h h := ⟨Nat.le_refl _, fun _ _ q => q⟩
theorem own_ext_trans {h h' h'' : Heap} (E : Ext h h') (F : Ext h' h'') : Ext h h'' := ⟨Nat.le_trans E.1 F.1, fun a c q => F.2 a c (E.2 a c q)⟩
theorem own_ext_wr {h h' h'' : Heap} {a : Addr} {sl : Nat} {v : Value} (E : Ext h h') (W : Wr h' h'' a sl v) (q : h.size ≤ a) : Ext h h'' := by
  obtain ⟨cell, -, -, -, rfl⟩ := W
  refine ⟨by simpa using E.1, fun b c r => ?_⟩
  have hb : b < h.size := (Array.getElem?_eq_some_iff.mp r).1
  rw [Array.getElem?_setIfInBounds_ne (Nat.ne_of_gt (Nat.lt_of_lt_of_le hb q))]
  exact E.2 b c r
theorem own_fldI {args : Array Value} {s : State} {t : Term} {a : Addr} {C n d : String} {k : Int32} (ev : t.eval args s none [] s = some (.ref a)) (h : (Cond.eq (.field t C n d) (.int k)).value args s none s [] = some true) : Fld s s.heap a C n d (.int k) := by
  obtain ⟨u, v, h1, h2, -, k2⟩ := cmp_v (Or.inl h)
  have e2 : (Term.int k).eval args s none [] s = some (.int k) := rfl
  cases e2.symm.trans h2
  obtain ⟨z, rfl⟩ := k2
  have q : z = k := by simpa [Cond.value, h1, e2] using h
  subst q
  exact Fld.start ((fld_at ev).symm.trans h1)
theorem own_fldJ {args : Array Value} {s : State} {t : Term} {a : Addr} {C n d : String} {k : Int64} (ev : t.eval args s none [] s = some (.ref a)) (h : (Cond.eq (.field t C n d) (.long k)).value args s none s [] = some true) : Fld s s.heap a C n d (.long k) := by
  obtain ⟨u, v, h1, h2, -, k2⟩ := cmp_v (Or.inl h)
  have e2 : (Term.long k).eval args s none [] s = some (.long k) := rfl
  cases e2.symm.trans h2
  obtain ⟨z, rfl⟩ := k2
  have q : z = k := by simpa [Cond.value, h1, e2] using h
  subst q
  exact Fld.start ((fld_at ev).symm.trans h1)
theorem own_fldN {args : Array Value} {s : State} {t : Term} {a : Addr} {C n d : String} (ev : t.eval args s none [] s = some (.ref a)) (h : (Cond.eq (.field t C n d) .null).value args s none s [] = some true) : Fld s s.heap a C n d .null :=
  Fld.start ((fld_at ev).symm.trans (null_v h))
theorem own_eqR {args : Array Value} {s : State} {t u : Term} {b : Addr} (eu : u.eval args s none [] s = some (.ref b)) (h : (Cond.eq t u).value args s none s [] = some true) : t.eval args s none [] s = some (.ref b) := by
  obtain ⟨x, y, h1, h2, k1, k2⟩ := cmp_v (Or.inl h)
  cases eu.symm.trans h2
  have hx : x.isRef = true := k2.2
  have q := gotT (eq_R h1 h2 hx rfl) h
  rw [h1, q]
theorem own_fldR {args : Array Value} {s : State} {t u : Term} {a b : Addr} {C n d : String} (ev : t.eval args s none [] s = some (.ref a)) (eu : u.eval args s none [] s = some (.ref b)) (h : (Cond.eq (.field t C n d) u).value args s none s [] = some true) : Fld s s.heap a C n d (.ref b) :=
  Fld.start ((fld_at ev).symm.trans (own_eqR eu h))
theorem own_elI {args : Array Value} {s : State} {t : Term} {a : Addr} {cl : Cell} {j k : Int32} {i : Nat} (ev : t.eval args s none [] s = some (.ref a)) (hc : s.heap[a]? = some cl) (h : (Cond.eq (.elem t (.int j)) (.int k)).value args s none s [] = some true) (hj : j.toNatClampNeg = i) : cl.slots[i]? = some (.int k) := by
  obtain ⟨u, v, h1, h2, -, k2⟩ := cmp_v (Or.inl h)
  have e2 : (Term.int k).eval args s none [] s = some (.int k) := rfl
  cases e2.symm.trans h2
  obtain ⟨z, rfl⟩ := k2
  have q : z = k := by simpa [Cond.value, h1, e2] using h
  subst q hj
  exact (elem_in h1 ev (rfl : (Term.int j).eval args s none [] s = some (.int j)) hc).2
theorem own_elR {args : Array Value} {s : State} {t u : Term} {a b : Addr} {cl : Cell} {j : Int32} {i : Nat} (ev : t.eval args s none [] s = some (.ref a)) (eu : u.eval args s none [] s = some (.ref b)) (hc : s.heap[a]? = some cl) (h : (Cond.eq (.elem t (.int j)) u).value args s none s [] = some true) (hj : j.toNatClampNeg = i) : cl.slots[i]? = some (.ref b) := by
  subst hj
  exact (elem_in (own_eqR eu h) ev (rfl : (Term.int j).eval args s none [] s = some (.int j)) hc).2
theorem own_len {args : Array Value} {s : State} {t : Term} {a : Addr} {cl : Cell} {ty : FieldType} {k : Int32} (ev : t.eval args s none [] s = some (.ref a)) (A : Arr s s.heap a cl ty) (h : (Cond.eq (.length t) (.int k)).value args s none s [] = some true) : cl.slots.size < 2 ^ 31 ∧ cl.slots.size.toInt32 = k := by
  obtain ⟨u, v, h1, h2, -, k2⟩ := cmp_v (Or.inl h)
  have e2 : (Term.int k).eval args s none [] s = some (.int k) := rfl
  cases e2.symm.trans h2
  obtain ⟨z, rfl⟩ := k2
  have q : z = k := by simpa [Cond.value, h1, e2] using h
  subst q
  have ha := A.fin (Vm.Alike.refl _)
  simp only [Term.eval, ev, ha, Option.bind_eq_bind, Option.bind_some] at h1
  split at h1
  · rename_i q
    exact ⟨q, by simpa using h1⟩
  · cases h1
theorem own_mask (p : Int32) : (p &&& (2147483647 : Int32)).toInt = p.toInt % 2 ^ 31 := by
  have h1 : (p &&& (2147483647 : Int32)).toInt = ((p &&& (2147483647 : Int32)).toBitVec).toInt := rfl
  have h2 : (p &&& (2147483647 : Int32)).toBitVec = p.toBitVec &&& 2147483647#32 := by simp [Int32.toBitVec_and]
  have h3 : p.toInt = p.toBitVec.toInt := rfl
  rw [h1, h2, h3, BitVec.toInt_eq_toNat_bmod, BitVec.toInt_eq_toNat_bmod, BitVec.toNat_and]
  have h4 : p.toBitVec.toNat &&& (2147483647#32).toNat = p.toBitVec.toNat % 2 ^ 31 := Nat.and_two_pow_sub_one_eq_mod _ 31
  rw [h4]
  have h5 := p.toBitVec.isLt
  generalize p.toBitVec.toNat = n at *
  simp only [Int.bmod_def]
  omega
theorem own_cases6 {z p : Int32} (h : z = (p &&& (2147483647 : Int32)) % (6 : Int32)) : z = (0 : Int32) ∨ z = (1 : Int32) ∨ z = (2 : Int32) ∨ z = (3 : Int32) ∨ z = (4 : Int32) ∨ z = (5 : Int32) := by
  have e1 : (p &&& (2147483647 : Int32)).toInt = p.toInt % 2 ^ 31 := own_mask p
  have e2 : z.toInt = (p.toInt % 2 ^ 31) % 6 := by
    rw [h, Int32.toInt_mod, e1, show (6 : Int32).toInt = 6 from by decide, Int.tmod_eq_emod_of_nonneg (Int.emod_nonneg _ (by decide))]
  have e3 : 0 ≤ z.toInt ∧ z.toInt < 6 := by rw [e2]; exact ⟨Int.emod_nonneg _ (by decide), Int.emod_lt_of_pos _ (by decide)⟩
  have k : ∀ {c : Int32} {k : Int}, c.toInt = k → z.toInt = k → z = c := fun h1 h2 => Int32.toInt_inj.mp (h2.trans h1.symm)
  have e4 : z.toInt = 0 ∨ z.toInt = 1 ∨ z.toInt = 2 ∨ z.toInt = 3 ∨ z.toInt = 4 ∨ z.toInt = 5 := by omega
  rcases e4 with e | e | e | e | e | e
  · exact Or.inl (k (by decide) e)
  · exact Or.inr (Or.inl (k (by decide) e))
  · exact Or.inr (Or.inr (Or.inl (k (by decide) e)))
  · exact Or.inr (Or.inr (Or.inr (Or.inl (k (by decide) e))))
  · exact Or.inr (Or.inr (Or.inr (Or.inr (Or.inl (k (by decide) e)))))
  · exact Or.inr (Or.inr (Or.inr (Or.inr (Or.inr ((k (by decide) e))))))
theorem own_cases4 {z p : Int32} (h : z = (p &&& (2147483647 : Int32)) % (4 : Int32)) : z = (0 : Int32) ∨ z = (1 : Int32) ∨ z = (2 : Int32) ∨ z = (3 : Int32) := by
  have e1 : (p &&& (2147483647 : Int32)).toInt = p.toInt % 2 ^ 31 := own_mask p
  have e2 : z.toInt = (p.toInt % 2 ^ 31) % 4 := by
    rw [h, Int32.toInt_mod, e1, show (4 : Int32).toInt = 4 from by decide, Int.tmod_eq_emod_of_nonneg (Int.emod_nonneg _ (by decide))]
  have e3 : 0 ≤ z.toInt ∧ z.toInt < 4 := by rw [e2]; exact ⟨Int.emod_nonneg _ (by decide), Int.emod_lt_of_pos _ (by decide)⟩
  have k : ∀ {c : Int32} {k : Int}, c.toInt = k → z.toInt = k → z = c := fun h1 h2 => Int32.toInt_inj.mp (h2.trans h1.symm)
  have e4 : z.toInt = 0 ∨ z.toInt = 1 ∨ z.toInt = 2 ∨ z.toInt = 3 := by omega
  rcases e4 with e | e | e | e
  · exact Or.inl (k (by decide) e)
  · exact Or.inr (Or.inl (k (by decide) e))
  · exact Or.inr (Or.inr (Or.inl (k (by decide) e)))
  · exact Or.inr (Or.inr (Or.inr ((k (by decide) e))))
def World (Z : State) (h : Heap) (wCARD_ERROR : Addr) (wPARTIAL : Addr) (wBALANCE : Addr) (wCREATE : Addr) (wPAYMENT_ERROR : Addr) (wLOAD : Addr) (wNO_TOPUP : Addr) (wORDINARY : Addr) (wBALANCE_ERROR : Addr) : Prop := Sta Z h "com/example/cardstand/cardstand/scenario/CardScenario" "CARD_ERROR" "Lcom/example/cardstand/cardstand/scenario/CardScenario;" (.ref wCARD_ERROR) ∧ Exa Z h wCARD_ERROR "com/example/cardstand/cardstand/scenario/CardScenario" ∧ Sta Z h "com/example/cardstand/cardstand/scenario/CardScenario" "PARTIAL" "Lcom/example/cardstand/cardstand/scenario/CardScenario;" (.ref wPARTIAL) ∧ Exa Z h wPARTIAL "com/example/cardstand/cardstand/scenario/CardScenario" ∧ Sta Z h "com/example/cardstand/cardstand/scenario/CardScenario$Operation" "BALANCE" "Lcom/example/cardstand/cardstand/scenario/CardScenario$Operation;" (.ref wBALANCE) ∧ Exa Z h wBALANCE "com/example/cardstand/cardstand/scenario/CardScenario$Operation" ∧ Fld Z h wPARTIAL "com/example/cardstand/cardstand/scenario/CardScenario" "failing" "Lcom/example/cardstand/cardstand/scenario/CardScenario$Operation;" .null ∧ Sta Z h "com/example/cardstand/cardstand/scenario/CardScenario$Operation" "CREATE" "Lcom/example/cardstand/cardstand/scenario/CardScenario$Operation;" (.ref wCREATE) ∧ Exa Z h wCREATE "com/example/cardstand/cardstand/scenario/CardScenario$Operation" ∧ Sta Z h "com/example/cardstand/cardstand/scenario/CardScenario" "PAYMENT_ERROR" "Lcom/example/cardstand/cardstand/scenario/CardScenario;" (.ref wPAYMENT_ERROR) ∧ Exa Z h wPAYMENT_ERROR "com/example/cardstand/cardstand/scenario/CardScenario" ∧ Sta Z h "com/example/cardstand/cardstand/scenario/CardScenario$Operation" "LOAD" "Lcom/example/cardstand/cardstand/scenario/CardScenario$Operation;" (.ref wLOAD) ∧ Exa Z h wLOAD "com/example/cardstand/cardstand/scenario/CardScenario$Operation" ∧ Fld Z h wPAYMENT_ERROR "com/example/cardstand/cardstand/scenario/CardScenario" "failing" "Lcom/example/cardstand/cardstand/scenario/CardScenario$Operation;" (.ref wLOAD) ∧ Fld Z h wCREATE "java/lang/Enum" "ordinal" "I" (.int (0 : Int32)) ∧ Fld Z h wLOAD "java/lang/Enum" "ordinal" "I" (.int (2 : Int32)) ∧ Sta Z h "com/example/cardstand/cardstand/scenario/CardScenario" "NO_TOPUP" "Lcom/example/cardstand/cardstand/scenario/CardScenario;" (.ref wNO_TOPUP) ∧ Exa Z h wNO_TOPUP "com/example/cardstand/cardstand/scenario/CardScenario" ∧ Fld Z h wNO_TOPUP "com/example/cardstand/cardstand/scenario/CardScenario" "failing" "Lcom/example/cardstand/cardstand/scenario/CardScenario$Operation;" .null ∧ Fld Z h wCARD_ERROR "com/example/cardstand/cardstand/scenario/CardScenario" "failing" "Lcom/example/cardstand/cardstand/scenario/CardScenario$Operation;" (.ref wCREATE) ∧ Fld Z h wBALANCE "java/lang/Enum" "ordinal" "I" (.int (1 : Int32)) ∧ Sta Z h "com/example/cardstand/cardstand/scenario/CardScenario" "ORDINARY" "Lcom/example/cardstand/cardstand/scenario/CardScenario;" (.ref wORDINARY) ∧ Exa Z h wORDINARY "com/example/cardstand/cardstand/scenario/CardScenario" ∧ Fld Z h wORDINARY "com/example/cardstand/cardstand/scenario/CardScenario" "failing" "Lcom/example/cardstand/cardstand/scenario/CardScenario$Operation;" .null ∧ Sta Z h "com/example/cardstand/cardstand/scenario/CardScenario" "BALANCE_ERROR" "Lcom/example/cardstand/cardstand/scenario/CardScenario;" (.ref wBALANCE_ERROR) ∧ Exa Z h wBALANCE_ERROR "com/example/cardstand/cardstand/scenario/CardScenario" ∧ Fld Z h wBALANCE_ERROR "com/example/cardstand/cardstand/scenario/CardScenario" "failing" "Lcom/example/cardstand/cardstand/scenario/CardScenario$Operation;" (.ref wBALANCE) ∧ True
theorem World.ext {Z : State} {h h' : Heap} {wCARD_ERROR : Addr} {wPARTIAL : Addr} {wBALANCE : Addr} {wCREATE : Addr} {wPAYMENT_ERROR : Addr} {wLOAD : Addr} {wNO_TOPUP : Addr} {wORDINARY : Addr} {wBALANCE_ERROR : Addr} (W : World Z h wCARD_ERROR wPARTIAL wBALANCE wCREATE wPAYMENT_ERROR wLOAD wNO_TOPUP wORDINARY wBALANCE_ERROR) (E : Ext h h') : World Z h' wCARD_ERROR wPARTIAL wBALANCE wCREATE wPAYMENT_ERROR wLOAD wNO_TOPUP wORDINARY wBALANCE_ERROR := by
  obtain ⟨SCARD_ERROR, ECARD_ERROR, SPARTIAL, EPARTIAL, SBALANCE, EBALANCE, FPARTIAL_failing, SCREATE, ECREATE, SPAYMENT_ERROR, EPAYMENT_ERROR, SLOAD, ELOAD, FPAYMENT_ERROR_failing, FCREATE_ordinal, FLOAD_ordinal, SNO_TOPUP, ENO_TOPUP, FNO_TOPUP_failing, FCARD_ERROR_failing, FBALANCE_ordinal, SORDINARY, EORDINARY, FORDINARY_failing, SBALANCE_ERROR, EBALANCE_ERROR, FBALANCE_ERROR_failing, -⟩ := W
  exact ⟨SCARD_ERROR.ext E, ECARD_ERROR.ext E, SPARTIAL.ext E, EPARTIAL.ext E, SBALANCE.ext E, EBALANCE.ext E, FPARTIAL_failing.ext E, SCREATE.ext E, ECREATE.ext E, SPAYMENT_ERROR.ext E, EPAYMENT_ERROR.ext E, SLOAD.ext E, ELOAD.ext E, FPAYMENT_ERROR_failing.ext E, FCREATE_ordinal.ext E, FLOAD_ordinal.ext E, SNO_TOPUP.ext E, ENO_TOPUP.ext E, FNO_TOPUP_failing.ext E, FCARD_ERROR_failing.ext E, FBALANCE_ordinal.ext E, SORDINARY.ext E, EORDINARY.ext E, FORDINARY_failing.ext E, SBALANCE_ERROR.ext E, EBALANCE_ERROR.ext E, FBALANCE_ERROR_failing.ext E, trivial⟩
theorem d1_0 : decode method_2_code 0 = .ok (.iload_n 0, 1) := by decide +kernel
theorem d1_1 : decode method_2_code 1 = .ok (.ifCond .ne 7, 3) := by decide +kernel
theorem d1_4 : decode method_2_code 4 = .ok (.getstatic 7, 3) := by decide +kernel
theorem d1_7 : decode method_2_code 7 = .ok (.areturn, 1) := by decide +kernel
theorem d1_8 : decode method_2_code 8 = .ok (.iload_n 0, 1) := by decide +kernel
theorem d1_9 : decode method_2_code 9 = .ok (.iconst 1, 1) := by decide +kernel
theorem d1_10 : decode method_2_code 10 = .ok (.if_icmp .ne 7, 3) := by decide +kernel
theorem d1_13 : decode method_2_code 13 = .ok (.getstatic 13, 3) := by decide +kernel
theorem d1_16 : decode method_2_code 16 = .ok (.areturn, 1) := by decide +kernel
theorem d1_17 : decode method_2_code 17 = .ok (.iload_n 0, 1) := by decide +kernel
theorem d1_18 : decode method_2_code 18 = .ok (.iconst 2, 1) := by decide +kernel
theorem d1_19 : decode method_2_code 19 = .ok (.if_icmp .ne 7, 3) := by decide +kernel
theorem d1_22 : decode method_2_code 22 = .ok (.getstatic 16, 3) := by decide +kernel
theorem d1_25 : decode method_2_code 25 = .ok (.areturn, 1) := by decide +kernel
theorem d1_26 : decode method_2_code 26 = .ok (.iload_n 0, 1) := by decide +kernel
theorem d1_27 : decode method_2_code 27 = .ok (.iconst 3, 1) := by decide +kernel
theorem d1_28 : decode method_2_code 28 = .ok (.if_icmp .ne 7, 3) := by decide +kernel
theorem d1_31 : decode method_2_code 31 = .ok (.getstatic 19, 3) := by decide +kernel
theorem d1_34 : decode method_2_code 34 = .ok (.areturn, 1) := by decide +kernel
theorem d1_35 : decode method_2_code 35 = .ok (.iload_n 0, 1) := by decide +kernel
theorem d1_36 : decode method_2_code 36 = .ok (.iconst 4, 1) := by decide +kernel
theorem d1_37 : decode method_2_code 37 = .ok (.if_icmp .ne 7, 3) := by decide +kernel
theorem d1_40 : decode method_2_code 40 = .ok (.getstatic 22, 3) := by decide +kernel
theorem d1_43 : decode method_2_code 43 = .ok (.areturn, 1) := by decide +kernel
theorem d1_44 : decode method_2_code 44 = .ok (.getstatic 25, 3) := by decide +kernel
theorem d1_47 : decode method_2_code 47 = .ok (.areturn, 1) := by decide +kernel
theorem pn_0 : plainName "com/example/cardstand/cardstand/scenario/CardScenarioFailsPinLaw" = true := by first | (simp [plainName, overriddenIn]; done) | decide +kernel
def f1 (p0 : Int32) (wCARD_ERROR : Addr) (wPARTIAL : Addr) (wBALANCE : Addr) (wCREATE : Addr) (wPAYMENT_ERROR : Addr) (wLOAD : Addr) (wNO_TOPUP : Addr) (wORDINARY : Addr) (wBALANCE_ERROR : Addr) : Addr := if p0 = (0 : Int32) then wCARD_ERROR else if p0 = (1 : Int32) then wNO_TOPUP else if p0 = (2 : Int32) then wPARTIAL else if p0 = (3 : Int32) then wBALANCE_ERROR else if p0 = (4 : Int32) then wPAYMENT_ERROR else wORDINARY
theorem ef_1 (m : MethodId) (p0 : Int32) : entryFrame m #[(.int p0)] 1 = mkF m 0 #[.val (.int p0)] [] := by first | (simp [entryFrame, mkF, argsToLocals, Value.category]; done) | rfl
def Q1 (Z : State) (p0 : Int32) (wCARD_ERROR : Addr) (wPARTIAL : Addr) (wBALANCE : Addr) (wCREATE : Addr) (wPAYMENT_ERROR : Addr) (wLOAD : Addr) (wNO_TOPUP : Addr) (wORDINARY : Addr) (wBALANCE_ERROR : Addr) (h0 : Heap) (n0 : Nat) (v : Option Value) (h : Heap) (L : List Loc) : Prop := v = some (.ref (f1 p0 wCARD_ERROR wPARTIAL wBALANCE wCREATE wPAYMENT_ERROR wLOAD wNO_TOPUP wORDINARY wBALANCE_ERROR)) ∧ Fr n0 L ∧ h = h0
set_option maxRecDepth 65536 in
set_option maxHeartbeats 40000000 in
theorem rm1 (l : Launch) (Z : State) (a0 : Array Value) (hw : ∀ d ∈ tables_1, d.before a0 Z = true) (ws : List Jvm.Cond) (p0 : Int32) (wCARD_ERROR : Addr) (wPARTIAL : Addr) (wBALANCE : Addr) (wCREATE : Addr) (wPAYMENT_ERROR : Addr) (wLOAD : Addr) (wNO_TOPUP : Addr) (wORDINARY : Addr) (wBALANCE_ERROR : Addr) (h0 : Heap) (n0 : Nat) (Z0 : n0 ≤ h0.size) (W0 : World Z h0 wCARD_ERROR wPARTIAL wBALANCE wCREATE wPAYMENT_ERROR wLOAD wNO_TOPUP wORDINARY wBALANCE_ERROR) :
    MetFree l (⟨"com/example/cardstand/cardstand/scenario/CardScenarioFailsPinLaw", "scenario", "(I)Lcom/example/cardstand/cardstand/scenario/CardScenario;"⟩ : MethodName) (head1 (Jvm.Cond.code (⟨"com/example/cardstand/cardstand/scenario/CardScenarioFailsPinLaw", "scenario", "(I)Lcom/example/cardstand/cardstand/scenario/CardScenario;"⟩ : MethodName) method_2_code 1 (some (.object "com/example/cardstand/cardstand/scenario/CardScenario")) :: ws) ({ frames := 0, cells := 0, slots := 0, locals := 0 } : Room)) (fun a U => a = #[(.int p0)] ∧ Z.Warmed39 U.vm ∧ U.heap = h0) (fun _ _ _ _ _ => True) (fun _ U o U' => ∃ v L, o = .returned v ∧ Q1 Z p0 wCARD_ERROR wPARTIAL wBALANCE wCREATE wPAYMENT_ERROR wLOAD wNO_TOPUP wORDINARY wBALANCE_ERROR h0 n0 v U'.heap L ∧ FrameEnd U o U' L ({ frames := 0, cells := 0, slots := 0, locals := 0 } : Room).cells ({ frames := 0, cells := 0, slots := 0, locals := 0 } : Room).slots) := by
  refine MetFree.of_bodySF (plainFor_of_name pn_0) hisR ?_
  intro p e s m args below meth c s₁ Bd hml0 hP hK
  obtain ⟨rfl, hZ, hh⟩ := hP
  have hx := Bd.exec
  have hby := Bd.bytes
  have hml : c.maxLocals = 1 := hml0
  have hown : s.vm.findClass "com/example/cardstand/cardstand/scenario/CardScenarioFailsPinLaw" = some m.cls := findClass_of_methodNamed Bd.named
  have X0 : Stand p l e ({ frames := 0, cells := 0, slots := 0, locals := 0 } : Room) s m #[(.int p0)] below meth c s₁ [] 0 0 := Stand.of_body Bd
  have e0 : s₁.heap = h0 := by rw [← hh, Bd.state]; rfl
  have N0 := Fr.nil n0
  have W1 := W0
  obtain ⟨SCARD_ERROR, ECARD_ERROR, SPARTIAL, EPARTIAL, SBALANCE, EBALANCE, FPARTIAL_failing, SCREATE, ECREATE, SPAYMENT_ERROR, EPAYMENT_ERROR, SLOAD, ELOAD, FPAYMENT_ERROR_failing, FCREATE_ordinal, FLOAD_ordinal, SNO_TOPUP, ENO_TOPUP, FNO_TOPUP_failing, FCARD_ERROR_failing, FBALANCE_ordinal, SORDINARY, EORDINARY, FORDINARY_failing, SBALANCE_ERROR, EBALANCE_ERROR, FBALANCE_ERROR_failing, -⟩ := W1
  have pre0 : ∀ t, Steps p.tables e below (s₁.setTop (mkF m 0 #[.val (.int p0)] [])) t → Steps p.tables e below (s₁.setTop (entryFrame m #[(.int p0)] 1)) t := fun t k => castTop (ef_1 m p0) k
  have k1 : ∀ t, Steps p.tables e below (s₁.setTop (mkF m 1 #[.val (.int p0)] [(.int p0)])) t → Steps p.tables e below (s₁.setTop (entryFrame m #[(.int p0)] 1)) t := fun t kt => pre0 t (by
    show Steps p.tables e below (s₁.setTop (mkF m 0 #[.val (.int p0)] [])) _
    refine XS.iloadN X0.here hx rfl (hb hby d1_0) rfl ?_
    exact kt)
  by_cases hc2 : p0 = (0 : Int32)
  · obtain ⟨T3, X3, e3, st3⟩ := getS2 X0 hx hZ hown (host := "") (Or.inl (hw _ (List.mem_of_getElem? (i := 5) rfl))) Via.refl e0 SCARD_ERROR (g := (mkF m 4 #[.val (.int p0)] [])) rfl (hb hby d1_4)
    obtain ⟨fs, hr, hrun, hended, hW, hsame⟩ := X3.leave (v := some (.ref wCARD_ERROR)) (fun h => by rw [Bd.returns] at h; cases h)
    refine ⟨_, _, k1 _ ?_, hrun, hended, _, _, rfl, ?_, ⟨_, rfl⟩, hW, hsame.mono (by decide) (by decide)⟩
    · show Steps p.tables e below (s₁.setTop (mkF m 1 #[.val (.int p0)] [(.int p0)])) _
      refine XS.ifNo X0.here hx rfl (hb hby d1_1) rfl ((if0 _ _).trans (teq (hc2 : p0 = (0 : Int32))).2) ?_
      show Steps p.tables e below (s₁.setTop (mkF m 4 #[.val (.int p0)] [])) _
      refine st3 _ ?_
      show Steps p.tables e below (T3.setTop (mkF m 7 #[.val (.int p0)] [(.ref wCARD_ERROR)])) _
      exact own_retA X3 hx Bd.returns rfl rfl (hb hby d1_7) hr
    · show Q1 Z p0 wCARD_ERROR wPARTIAL wBALANCE wCREATE wPAYMENT_ERROR wLOAD wNO_TOPUP wORDINARY wBALANCE_ERROR h0 n0 _ T3.heap _
      rw [e3]
      exact ⟨by rw [f1, if_pos hc2], N0, rfl⟩
  · have k4 : ∀ t, Steps p.tables e below (s₁.setTop (mkF m 10 #[.val (.int p0)] [(.int (1 : Int32)), (.int p0)])) t → Steps p.tables e below (s₁.setTop (entryFrame m #[(.int p0)] 1)) t := fun t kt => k1 t (by
      show Steps p.tables e below (s₁.setTop (mkF m 1 #[.val (.int p0)] [(.int p0)])) _
      refine XS.ifYes X0.here hx rfl (pc0 := 1) (pc' := 8) rfl (hb hby d1_1) rfl ((if0 _ _).trans (feq (hc2 : ¬ (p0 = (0 : Int32)))).2) (by decide) (by decide) ?_
      show Steps p.tables e below (s₁.setTop (mkF m 8 #[.val (.int p0)] [])) _
      refine XS.iloadN X0.here hx rfl (hb hby d1_8) rfl ?_
      show Steps p.tables e below (s₁.setTop (mkF m 9 #[.val (.int p0)] [(.int p0)])) _
      refine XS.iconst X0.here hx rfl (hb hby d1_9) ?_
      exact kt)
    by_cases hc5 : p0 = (1 : Int32)
    · obtain ⟨T6, X6, e6, st6⟩ := getS2 X0 hx hZ hown (host := "") (Or.inl (hw _ (List.mem_of_getElem? (i := 28) rfl))) Via.refl e0 SNO_TOPUP (g := (mkF m 13 #[.val (.int p0)] [])) rfl (hb hby d1_13)
      obtain ⟨fs, hr, hrun, hended, hW, hsame⟩ := X6.leave (v := some (.ref wNO_TOPUP)) (fun h => by rw [Bd.returns] at h; cases h)
      refine ⟨_, _, k4 _ ?_, hrun, hended, _, _, rfl, ?_, ⟨_, rfl⟩, hW, hsame.mono (by decide) (by decide)⟩
      · show Steps p.tables e below (s₁.setTop (mkF m 10 #[.val (.int p0)] [(.int (1 : Int32)), (.int p0)])) _
        refine XS.icmpNo X0.here hx rfl (hb hby d1_10) rfl (teq (hc5 : p0 = (1 : Int32))).2 ?_
        show Steps p.tables e below (s₁.setTop (mkF m 13 #[.val (.int p0)] [])) _
        refine st6 _ ?_
        show Steps p.tables e below (T6.setTop (mkF m 16 #[.val (.int p0)] [(.ref wNO_TOPUP)])) _
        exact own_retA X6 hx Bd.returns rfl rfl (hb hby d1_16) hr
      · show Q1 Z p0 wCARD_ERROR wPARTIAL wBALANCE wCREATE wPAYMENT_ERROR wLOAD wNO_TOPUP wORDINARY wBALANCE_ERROR h0 n0 _ T6.heap _
        rw [e6]
        exact ⟨by rw [f1, if_neg hc2, if_pos hc5], N0, rfl⟩
    · have k7 : ∀ t, Steps p.tables e below (s₁.setTop (mkF m 19 #[.val (.int p0)] [(.int (2 : Int32)), (.int p0)])) t → Steps p.tables e below (s₁.setTop (entryFrame m #[(.int p0)] 1)) t := fun t kt => k4 t (by
        show Steps p.tables e below (s₁.setTop (mkF m 10 #[.val (.int p0)] [(.int (1 : Int32)), (.int p0)])) _
        refine XS.icmpYes X0.here hx rfl (pc0 := 10) (pc' := 17) rfl (hb hby d1_10) rfl (feq (hc5 : ¬ (p0 = (1 : Int32)))).2 (by decide) (by decide) ?_
        show Steps p.tables e below (s₁.setTop (mkF m 17 #[.val (.int p0)] [])) _
        refine XS.iloadN X0.here hx rfl (hb hby d1_17) rfl ?_
        show Steps p.tables e below (s₁.setTop (mkF m 18 #[.val (.int p0)] [(.int p0)])) _
        refine XS.iconst X0.here hx rfl (hb hby d1_18) ?_
        exact kt)
      by_cases hc8 : p0 = (2 : Int32)
      · obtain ⟨T9, X9, e9, st9⟩ := getS2 X0 hx hZ hown (host := "") (Or.inl (hw _ (List.mem_of_getElem? (i := 16) rfl))) Via.refl e0 SPARTIAL (g := (mkF m 22 #[.val (.int p0)] [])) rfl (hb hby d1_22)
        obtain ⟨fs, hr, hrun, hended, hW, hsame⟩ := X9.leave (v := some (.ref wPARTIAL)) (fun h => by rw [Bd.returns] at h; cases h)
        refine ⟨_, _, k7 _ ?_, hrun, hended, _, _, rfl, ?_, ⟨_, rfl⟩, hW, hsame.mono (by decide) (by decide)⟩
        · show Steps p.tables e below (s₁.setTop (mkF m 19 #[.val (.int p0)] [(.int (2 : Int32)), (.int p0)])) _
          refine XS.icmpNo X0.here hx rfl (hb hby d1_19) rfl (teq (hc8 : p0 = (2 : Int32))).2 ?_
          show Steps p.tables e below (s₁.setTop (mkF m 22 #[.val (.int p0)] [])) _
          refine st9 _ ?_
          show Steps p.tables e below (T9.setTop (mkF m 25 #[.val (.int p0)] [(.ref wPARTIAL)])) _
          exact own_retA X9 hx Bd.returns rfl rfl (hb hby d1_25) hr
        · show Q1 Z p0 wCARD_ERROR wPARTIAL wBALANCE wCREATE wPAYMENT_ERROR wLOAD wNO_TOPUP wORDINARY wBALANCE_ERROR h0 n0 _ T9.heap _
          rw [e9]
          exact ⟨by rw [f1, if_neg hc2, if_neg hc5, if_pos hc8], N0, rfl⟩
      · have k10 : ∀ t, Steps p.tables e below (s₁.setTop (mkF m 28 #[.val (.int p0)] [(.int (3 : Int32)), (.int p0)])) t → Steps p.tables e below (s₁.setTop (entryFrame m #[(.int p0)] 1)) t := fun t kt => k7 t (by
          show Steps p.tables e below (s₁.setTop (mkF m 19 #[.val (.int p0)] [(.int (2 : Int32)), (.int p0)])) _
          refine XS.icmpYes X0.here hx rfl (pc0 := 19) (pc' := 26) rfl (hb hby d1_19) rfl (feq (hc8 : ¬ (p0 = (2 : Int32)))).2 (by decide) (by decide) ?_
          show Steps p.tables e below (s₁.setTop (mkF m 26 #[.val (.int p0)] [])) _
          refine XS.iloadN X0.here hx rfl (hb hby d1_26) rfl ?_
          show Steps p.tables e below (s₁.setTop (mkF m 27 #[.val (.int p0)] [(.int p0)])) _
          refine XS.iconst X0.here hx rfl (hb hby d1_27) ?_
          exact kt)
        by_cases hc11 : p0 = (3 : Int32)
        · obtain ⟨T12, X12, e12, st12⟩ := getS2 X0 hx hZ hown (host := "") (Or.inl (hw _ (List.mem_of_getElem? (i := 33) rfl))) Via.refl e0 SBALANCE_ERROR (g := (mkF m 31 #[.val (.int p0)] [])) rfl (hb hby d1_31)
          obtain ⟨fs, hr, hrun, hended, hW, hsame⟩ := X12.leave (v := some (.ref wBALANCE_ERROR)) (fun h => by rw [Bd.returns] at h; cases h)
          refine ⟨_, _, k10 _ ?_, hrun, hended, _, _, rfl, ?_, ⟨_, rfl⟩, hW, hsame.mono (by decide) (by decide)⟩
          · show Steps p.tables e below (s₁.setTop (mkF m 28 #[.val (.int p0)] [(.int (3 : Int32)), (.int p0)])) _
            refine XS.icmpNo X0.here hx rfl (hb hby d1_28) rfl (teq (hc11 : p0 = (3 : Int32))).2 ?_
            show Steps p.tables e below (s₁.setTop (mkF m 31 #[.val (.int p0)] [])) _
            refine st12 _ ?_
            show Steps p.tables e below (T12.setTop (mkF m 34 #[.val (.int p0)] [(.ref wBALANCE_ERROR)])) _
            exact own_retA X12 hx Bd.returns rfl rfl (hb hby d1_34) hr
          · show Q1 Z p0 wCARD_ERROR wPARTIAL wBALANCE wCREATE wPAYMENT_ERROR wLOAD wNO_TOPUP wORDINARY wBALANCE_ERROR h0 n0 _ T12.heap _
            rw [e12]
            exact ⟨by rw [f1, if_neg hc2, if_neg hc5, if_neg hc8, if_pos hc11], N0, rfl⟩
        · have k13 : ∀ t, Steps p.tables e below (s₁.setTop (mkF m 37 #[.val (.int p0)] [(.int (4 : Int32)), (.int p0)])) t → Steps p.tables e below (s₁.setTop (entryFrame m #[(.int p0)] 1)) t := fun t kt => k10 t (by
            show Steps p.tables e below (s₁.setTop (mkF m 28 #[.val (.int p0)] [(.int (3 : Int32)), (.int p0)])) _
            refine XS.icmpYes X0.here hx rfl (pc0 := 28) (pc' := 35) rfl (hb hby d1_28) rfl (feq (hc11 : ¬ (p0 = (3 : Int32)))).2 (by decide) (by decide) ?_
            show Steps p.tables e below (s₁.setTop (mkF m 35 #[.val (.int p0)] [])) _
            refine XS.iloadN X0.here hx rfl (hb hby d1_35) rfl ?_
            show Steps p.tables e below (s₁.setTop (mkF m 36 #[.val (.int p0)] [(.int p0)])) _
            refine XS.iconst X0.here hx rfl (hb hby d1_36) ?_
            exact kt)
          by_cases hc14 : p0 = (4 : Int32)
          · obtain ⟨T15, X15, e15, st15⟩ := getS2 X0 hx hZ hown (host := "") (Or.inl (hw _ (List.mem_of_getElem? (i := 25) rfl))) Via.refl e0 SPAYMENT_ERROR (g := (mkF m 40 #[.val (.int p0)] [])) rfl (hb hby d1_40)
            obtain ⟨fs, hr, hrun, hended, hW, hsame⟩ := X15.leave (v := some (.ref wPAYMENT_ERROR)) (fun h => by rw [Bd.returns] at h; cases h)
            refine ⟨_, _, k13 _ ?_, hrun, hended, _, _, rfl, ?_, ⟨_, rfl⟩, hW, hsame.mono (by decide) (by decide)⟩
            · show Steps p.tables e below (s₁.setTop (mkF m 37 #[.val (.int p0)] [(.int (4 : Int32)), (.int p0)])) _
              refine XS.icmpNo X0.here hx rfl (hb hby d1_37) rfl (teq (hc14 : p0 = (4 : Int32))).2 ?_
              show Steps p.tables e below (s₁.setTop (mkF m 40 #[.val (.int p0)] [])) _
              refine st15 _ ?_
              show Steps p.tables e below (T15.setTop (mkF m 43 #[.val (.int p0)] [(.ref wPAYMENT_ERROR)])) _
              exact own_retA X15 hx Bd.returns rfl rfl (hb hby d1_43) hr
            · show Q1 Z p0 wCARD_ERROR wPARTIAL wBALANCE wCREATE wPAYMENT_ERROR wLOAD wNO_TOPUP wORDINARY wBALANCE_ERROR h0 n0 _ T15.heap _
              rw [e15]
              exact ⟨by rw [f1, if_neg hc2, if_neg hc5, if_neg hc8, if_neg hc11, if_pos hc14], N0, rfl⟩
          · obtain ⟨T16, X16, e16, st16⟩ := getS2 X0 hx hZ hown (host := "") (Or.inl (hw _ (List.mem_of_getElem? (i := 30) rfl))) Via.refl e0 SORDINARY (g := (mkF m 44 #[.val (.int p0)] [])) rfl (hb hby d1_44)
            obtain ⟨fs, hr, hrun, hended, hW, hsame⟩ := X16.leave (v := some (.ref wORDINARY)) (fun h => by rw [Bd.returns] at h; cases h)
            refine ⟨_, _, k13 _ ?_, hrun, hended, _, _, rfl, ?_, ⟨_, rfl⟩, hW, hsame.mono (by decide) (by decide)⟩
            · show Steps p.tables e below (s₁.setTop (mkF m 37 #[.val (.int p0)] [(.int (4 : Int32)), (.int p0)])) _
              refine XS.icmpYes X0.here hx rfl (pc0 := 37) (pc' := 44) rfl (hb hby d1_37) rfl (feq (hc14 : ¬ (p0 = (4 : Int32)))).2 (by decide) (by decide) ?_
              show Steps p.tables e below (s₁.setTop (mkF m 44 #[.val (.int p0)] [])) _
              refine st16 _ ?_
              show Steps p.tables e below (T16.setTop (mkF m 47 #[.val (.int p0)] [(.ref wORDINARY)])) _
              exact own_retA X16 hx Bd.returns rfl rfl (hb hby d1_47) hr
            · show Q1 Z p0 wCARD_ERROR wPARTIAL wBALANCE wCREATE wPAYMENT_ERROR wLOAD wNO_TOPUP wORDINARY wBALANCE_ERROR h0 n0 _ T16.heap _
              rw [e16]
              exact ⟨by rw [f1, if_neg hc2, if_neg hc5, if_neg hc8, if_neg hc11, if_neg hc14], N0, rfl⟩
theorem d2_0 : decode method_3_code 0 = .ok (.iload_n 0, 1) := by decide +kernel
theorem d2_1 : decode method_3_code 1 = .ok (.ifCond .ne 7, 3) := by decide +kernel
theorem d2_4 : decode method_3_code 4 = .ok (.getstatic 28, 3) := by decide +kernel
theorem d2_7 : decode method_3_code 7 = .ok (.areturn, 1) := by decide +kernel
theorem d2_8 : decode method_3_code 8 = .ok (.iload_n 0, 1) := by decide +kernel
theorem d2_9 : decode method_3_code 9 = .ok (.iconst 1, 1) := by decide +kernel
theorem d2_10 : decode method_3_code 10 = .ok (.if_icmp .ne 7, 3) := by decide +kernel
theorem d2_13 : decode method_3_code 13 = .ok (.getstatic 34, 3) := by decide +kernel
theorem d2_16 : decode method_3_code 16 = .ok (.areturn, 1) := by decide +kernel
theorem d2_17 : decode method_3_code 17 = .ok (.iload_n 0, 1) := by decide +kernel
theorem d2_18 : decode method_3_code 18 = .ok (.iconst 2, 1) := by decide +kernel
theorem d2_19 : decode method_3_code 19 = .ok (.if_icmp .ne 7, 3) := by decide +kernel
theorem d2_22 : decode method_3_code 22 = .ok (.getstatic 37, 3) := by decide +kernel
theorem d2_25 : decode method_3_code 25 = .ok (.areturn, 1) := by decide +kernel
theorem d2_26 : decode method_3_code 26 = .ok (.aconst_null, 1) := by decide +kernel
theorem d2_27 : decode method_3_code 27 = .ok (.areturn, 1) := by decide +kernel
def f2 (p0 : Int32) (wCARD_ERROR : Addr) (wPARTIAL : Addr) (wBALANCE : Addr) (wCREATE : Addr) (wPAYMENT_ERROR : Addr) (wLOAD : Addr) (wNO_TOPUP : Addr) (wORDINARY : Addr) (wBALANCE_ERROR : Addr) : Value := if p0 = (0 : Int32) then (.ref wCREATE) else if p0 = (1 : Int32) then (.ref wBALANCE) else if p0 = (2 : Int32) then (.ref wLOAD) else .null
theorem ef_2 (m : MethodId) (p0 : Int32) : entryFrame m #[(.int p0)] 1 = mkF m 0 #[.val (.int p0)] [] := by first | (simp [entryFrame, mkF, argsToLocals, Value.category]; done) | rfl
def Q2 (Z : State) (p0 : Int32) (wCARD_ERROR : Addr) (wPARTIAL : Addr) (wBALANCE : Addr) (wCREATE : Addr) (wPAYMENT_ERROR : Addr) (wLOAD : Addr) (wNO_TOPUP : Addr) (wORDINARY : Addr) (wBALANCE_ERROR : Addr) (h0 : Heap) (n0 : Nat) (v : Option Value) (h : Heap) (L : List Loc) : Prop := v = some (f2 p0 wCARD_ERROR wPARTIAL wBALANCE wCREATE wPAYMENT_ERROR wLOAD wNO_TOPUP wORDINARY wBALANCE_ERROR) ∧ Fr n0 L ∧ h = h0
set_option maxRecDepth 65536 in
set_option maxHeartbeats 40000000 in
theorem rm2 (l : Launch) (Z : State) (a0 : Array Value) (hw : ∀ d ∈ tables_1, d.before a0 Z = true) (ws : List Jvm.Cond) (p0 : Int32) (wCARD_ERROR : Addr) (wPARTIAL : Addr) (wBALANCE : Addr) (wCREATE : Addr) (wPAYMENT_ERROR : Addr) (wLOAD : Addr) (wNO_TOPUP : Addr) (wORDINARY : Addr) (wBALANCE_ERROR : Addr) (h0 : Heap) (n0 : Nat) (Z0 : n0 ≤ h0.size) (W0 : World Z h0 wCARD_ERROR wPARTIAL wBALANCE wCREATE wPAYMENT_ERROR wLOAD wNO_TOPUP wORDINARY wBALANCE_ERROR) :
    MetFree l (⟨"com/example/cardstand/cardstand/scenario/CardScenarioFailsPinLaw", "operation", "(I)Lcom/example/cardstand/cardstand/scenario/CardScenario$Operation;"⟩ : MethodName) (head1 (Jvm.Cond.code (⟨"com/example/cardstand/cardstand/scenario/CardScenarioFailsPinLaw", "operation", "(I)Lcom/example/cardstand/cardstand/scenario/CardScenario$Operation;"⟩ : MethodName) method_3_code 1 (some (.object "com/example/cardstand/cardstand/scenario/CardScenario$Operation")) :: ws) ({ frames := 0, cells := 0, slots := 0, locals := 0 } : Room)) (fun a U => a = #[(.int p0)] ∧ Z.Warmed39 U.vm ∧ U.heap = h0) (fun _ _ _ _ _ => True) (fun _ U o U' => ∃ v L, o = .returned v ∧ Q2 Z p0 wCARD_ERROR wPARTIAL wBALANCE wCREATE wPAYMENT_ERROR wLOAD wNO_TOPUP wORDINARY wBALANCE_ERROR h0 n0 v U'.heap L ∧ FrameEnd U o U' L ({ frames := 0, cells := 0, slots := 0, locals := 0 } : Room).cells ({ frames := 0, cells := 0, slots := 0, locals := 0 } : Room).slots) := by
  refine MetFree.of_bodySF (plainFor_of_name pn_0) hisR ?_
  intro p e s m args below meth c s₁ Bd hml0 hP hK
  obtain ⟨rfl, hZ, hh⟩ := hP
  have hx := Bd.exec
  have hby := Bd.bytes
  have hml : c.maxLocals = 1 := hml0
  have hown : s.vm.findClass "com/example/cardstand/cardstand/scenario/CardScenarioFailsPinLaw" = some m.cls := findClass_of_methodNamed Bd.named
  have X0 : Stand p l e ({ frames := 0, cells := 0, slots := 0, locals := 0 } : Room) s m #[(.int p0)] below meth c s₁ [] 0 0 := Stand.of_body Bd
  have e0 : s₁.heap = h0 := by rw [← hh, Bd.state]; rfl
  have N0 := Fr.nil n0
  have W1 := W0
  obtain ⟨SCARD_ERROR, ECARD_ERROR, SPARTIAL, EPARTIAL, SBALANCE, EBALANCE, FPARTIAL_failing, SCREATE, ECREATE, SPAYMENT_ERROR, EPAYMENT_ERROR, SLOAD, ELOAD, FPAYMENT_ERROR_failing, FCREATE_ordinal, FLOAD_ordinal, SNO_TOPUP, ENO_TOPUP, FNO_TOPUP_failing, FCARD_ERROR_failing, FBALANCE_ordinal, SORDINARY, EORDINARY, FORDINARY_failing, SBALANCE_ERROR, EBALANCE_ERROR, FBALANCE_ERROR_failing, -⟩ := W1
  have pre0 : ∀ t, Steps p.tables e below (s₁.setTop (mkF m 0 #[.val (.int p0)] [])) t → Steps p.tables e below (s₁.setTop (entryFrame m #[(.int p0)] 1)) t := fun t k => castTop (ef_2 m p0) k
  have k17 : ∀ t, Steps p.tables e below (s₁.setTop (mkF m 1 #[.val (.int p0)] [(.int p0)])) t → Steps p.tables e below (s₁.setTop (entryFrame m #[(.int p0)] 1)) t := fun t kt => pre0 t (by
    show Steps p.tables e below (s₁.setTop (mkF m 0 #[.val (.int p0)] [])) _
    refine XS.iloadN X0.here hx rfl (hb hby d2_0) rfl ?_
    exact kt)
  by_cases hc18 : p0 = (0 : Int32)
  · obtain ⟨T19, X19, e19, st19⟩ := getS2 X0 hx hZ hown (host := "") (Or.inl (hw _ (List.mem_of_getElem? (i := 23) rfl))) Via.refl e0 SCREATE (g := (mkF m 4 #[.val (.int p0)] [])) rfl (hb hby d2_4)
    obtain ⟨fs, hr, hrun, hended, hW, hsame⟩ := X19.leave (v := some (.ref wCREATE)) (fun h => by rw [Bd.returns] at h; cases h)
    refine ⟨_, _, k17 _ ?_, hrun, hended, _, _, rfl, ?_, ⟨_, rfl⟩, hW, hsame.mono (by decide) (by decide)⟩
    · show Steps p.tables e below (s₁.setTop (mkF m 1 #[.val (.int p0)] [(.int p0)])) _
      refine XS.ifNo X0.here hx rfl (hb hby d2_1) rfl ((if0 _ _).trans (teq (hc18 : p0 = (0 : Int32))).2) ?_
      show Steps p.tables e below (s₁.setTop (mkF m 4 #[.val (.int p0)] [])) _
      refine st19 _ ?_
      show Steps p.tables e below (T19.setTop (mkF m 7 #[.val (.int p0)] [(.ref wCREATE)])) _
      exact own_retA X19 hx Bd.returns rfl rfl (hb hby d2_7) hr
    · show Q2 Z p0 wCARD_ERROR wPARTIAL wBALANCE wCREATE wPAYMENT_ERROR wLOAD wNO_TOPUP wORDINARY wBALANCE_ERROR h0 n0 _ T19.heap _
      rw [e19]
      exact ⟨by rw [f2, if_pos hc18], N0, rfl⟩
  · have k20 : ∀ t, Steps p.tables e below (s₁.setTop (mkF m 10 #[.val (.int p0)] [(.int (1 : Int32)), (.int p0)])) t → Steps p.tables e below (s₁.setTop (entryFrame m #[(.int p0)] 1)) t := fun t kt => k17 t (by
      show Steps p.tables e below (s₁.setTop (mkF m 1 #[.val (.int p0)] [(.int p0)])) _
      refine XS.ifYes X0.here hx rfl (pc0 := 1) (pc' := 8) rfl (hb hby d2_1) rfl ((if0 _ _).trans (feq (hc18 : ¬ (p0 = (0 : Int32)))).2) (by decide) (by decide) ?_
      show Steps p.tables e below (s₁.setTop (mkF m 8 #[.val (.int p0)] [])) _
      refine XS.iloadN X0.here hx rfl (hb hby d2_8) rfl ?_
      show Steps p.tables e below (s₁.setTop (mkF m 9 #[.val (.int p0)] [(.int p0)])) _
      refine XS.iconst X0.here hx rfl (hb hby d2_9) ?_
      exact kt)
    by_cases hc21 : p0 = (1 : Int32)
    · obtain ⟨T22, X22, e22, st22⟩ := getS2 X0 hx hZ hown (host := "") (Or.inl (hw _ (List.mem_of_getElem? (i := 18) rfl))) Via.refl e0 SBALANCE (g := (mkF m 13 #[.val (.int p0)] [])) rfl (hb hby d2_13)
      obtain ⟨fs, hr, hrun, hended, hW, hsame⟩ := X22.leave (v := some (.ref wBALANCE)) (fun h => by rw [Bd.returns] at h; cases h)
      refine ⟨_, _, k20 _ ?_, hrun, hended, _, _, rfl, ?_, ⟨_, rfl⟩, hW, hsame.mono (by decide) (by decide)⟩
      · show Steps p.tables e below (s₁.setTop (mkF m 10 #[.val (.int p0)] [(.int (1 : Int32)), (.int p0)])) _
        refine XS.icmpNo X0.here hx rfl (hb hby d2_10) rfl (teq (hc21 : p0 = (1 : Int32))).2 ?_
        show Steps p.tables e below (s₁.setTop (mkF m 13 #[.val (.int p0)] [])) _
        refine st22 _ ?_
        show Steps p.tables e below (T22.setTop (mkF m 16 #[.val (.int p0)] [(.ref wBALANCE)])) _
        exact own_retA X22 hx Bd.returns rfl rfl (hb hby d2_16) hr
      · show Q2 Z p0 wCARD_ERROR wPARTIAL wBALANCE wCREATE wPAYMENT_ERROR wLOAD wNO_TOPUP wORDINARY wBALANCE_ERROR h0 n0 _ T22.heap _
        rw [e22]
        exact ⟨by rw [f2, if_neg hc18, if_pos hc21], N0, rfl⟩
    · have k23 : ∀ t, Steps p.tables e below (s₁.setTop (mkF m 19 #[.val (.int p0)] [(.int (2 : Int32)), (.int p0)])) t → Steps p.tables e below (s₁.setTop (entryFrame m #[(.int p0)] 1)) t := fun t kt => k20 t (by
        show Steps p.tables e below (s₁.setTop (mkF m 10 #[.val (.int p0)] [(.int (1 : Int32)), (.int p0)])) _
        refine XS.icmpYes X0.here hx rfl (pc0 := 10) (pc' := 17) rfl (hb hby d2_10) rfl (feq (hc21 : ¬ (p0 = (1 : Int32)))).2 (by decide) (by decide) ?_
        show Steps p.tables e below (s₁.setTop (mkF m 17 #[.val (.int p0)] [])) _
        refine XS.iloadN X0.here hx rfl (hb hby d2_17) rfl ?_
        show Steps p.tables e below (s₁.setTop (mkF m 18 #[.val (.int p0)] [(.int p0)])) _
        refine XS.iconst X0.here hx rfl (hb hby d2_18) ?_
        exact kt)
      by_cases hc24 : p0 = (2 : Int32)
      · obtain ⟨T25, X25, e25, st25⟩ := getS2 X0 hx hZ hown (host := "") (Or.inl (hw _ (List.mem_of_getElem? (i := 32) rfl))) Via.refl e0 SLOAD (g := (mkF m 22 #[.val (.int p0)] [])) rfl (hb hby d2_22)
        obtain ⟨fs, hr, hrun, hended, hW, hsame⟩ := X25.leave (v := some (.ref wLOAD)) (fun h => by rw [Bd.returns] at h; cases h)
        refine ⟨_, _, k23 _ ?_, hrun, hended, _, _, rfl, ?_, ⟨_, rfl⟩, hW, hsame.mono (by decide) (by decide)⟩
        · show Steps p.tables e below (s₁.setTop (mkF m 19 #[.val (.int p0)] [(.int (2 : Int32)), (.int p0)])) _
          refine XS.icmpNo X0.here hx rfl (hb hby d2_19) rfl (teq (hc24 : p0 = (2 : Int32))).2 ?_
          show Steps p.tables e below (s₁.setTop (mkF m 22 #[.val (.int p0)] [])) _
          refine st25 _ ?_
          show Steps p.tables e below (T25.setTop (mkF m 25 #[.val (.int p0)] [(.ref wLOAD)])) _
          exact own_retA X25 hx Bd.returns rfl rfl (hb hby d2_25) hr
        · show Q2 Z p0 wCARD_ERROR wPARTIAL wBALANCE wCREATE wPAYMENT_ERROR wLOAD wNO_TOPUP wORDINARY wBALANCE_ERROR h0 n0 _ T25.heap _
          rw [e25]
          exact ⟨by rw [f2, if_neg hc18, if_neg hc21, if_pos hc24], N0, rfl⟩
      · obtain ⟨fs, hr, hrun, hended, hW, hsame⟩ := X0.leave (v := some .null) (fun h => by rw [Bd.returns] at h; cases h)
        refine ⟨_, _, k23 _ ?_, hrun, hended, _, _, rfl, ?_, ⟨_, rfl⟩, hW, hsame.mono (by decide) (by decide)⟩
        · show Steps p.tables e below (s₁.setTop (mkF m 19 #[.val (.int p0)] [(.int (2 : Int32)), (.int p0)])) _
          refine XS.icmpYes X0.here hx rfl (pc0 := 19) (pc' := 26) rfl (hb hby d2_19) rfl (feq (hc24 : ¬ (p0 = (2 : Int32)))).2 (by decide) (by decide) ?_
          show Steps p.tables e below (s₁.setTop (mkF m 26 #[.val (.int p0)] [])) _
          refine XS.aconstNull X0.here hx rfl (hb hby d2_26) ?_
          show Steps p.tables e below (s₁.setTop (mkF m 27 #[.val (.int p0)] [.null])) _
          exact own_retA X0 hx Bd.returns rfl rfl (hb hby d2_27) hr
        · show Q2 Z p0 wCARD_ERROR wPARTIAL wBALANCE wCREATE wPAYMENT_ERROR wLOAD wNO_TOPUP wORDINARY wBALANCE_ERROR h0 n0 _ s₁.heap _
          rw [e0]
          exact ⟨by rw [f2, if_neg hc18, if_neg hc21, if_neg hc24], N0, rfl⟩
theorem d3_0 : decode prog_33_method_9_code 0 = .ok (.aload_n 1, 1) := by decide +kernel
theorem d3_1 : decode prog_33_method_9_code 1 = .ok (.ifnull 15, 3) := by decide +kernel
theorem d3_4 : decode prog_33_method_9_code 4 = .ok (.aload_n 1, 1) := by decide +kernel
theorem d3_5 : decode prog_33_method_9_code 5 = .ok (.aload_n 0, 1) := by decide +kernel
theorem d3_6 : decode prog_33_method_9_code 6 = .ok (.getfield 55, 3) := by decide +kernel
theorem d3_9 : decode prog_33_method_9_code 9 = .ok (.if_acmp .ne 7, 3) := by decide +kernel
theorem d3_12 : decode prog_33_method_9_code 12 = .ok (.iconst 1, 1) := by decide +kernel
theorem d3_13 : decode prog_33_method_9_code 13 = .ok (.goto 4, 3) := by decide +kernel
theorem d3_17 : decode prog_33_method_9_code 17 = .ok (.ireturn, 1) := by decide +kernel
theorem d3_16 : decode prog_33_method_9_code 16 = .ok (.iconst 0, 1) := by decide +kernel
theorem pn_1 : plainName "com/example/cardstand/cardstand/scenario/CardScenario" = true := by first | (simp [plainName, overriddenIn]; done) | decide +kernel
def f3 (p0 : Addr) (p1 : Addr) (u_p0_failing : Addr) (wCARD_ERROR : Addr) (wPARTIAL : Addr) (wBALANCE : Addr) (wCREATE : Addr) (wPAYMENT_ERROR : Addr) (wLOAD : Addr) (wNO_TOPUP : Addr) (wORDINARY : Addr) (wBALANCE_ERROR : Addr) : Int32 := if p1 = u_p0_failing then (1 : Int32) else (0 : Int32)
theorem ef_3 (m : MethodId) (p0 : Addr) (p1 : Addr) : entryFrame m #[(.ref p0), (.ref p1)] 2 = mkF m 0 #[.val (.ref p0), .val (.ref p1)] [] := by first | (simp [entryFrame, mkF, argsToLocals, Value.category]; done) | rfl
def Q3 (Z : State) (p0 : Addr) (p1 : Addr) (u_p0_failing : Addr) (wCARD_ERROR : Addr) (wPARTIAL : Addr) (wBALANCE : Addr) (wCREATE : Addr) (wPAYMENT_ERROR : Addr) (wLOAD : Addr) (wNO_TOPUP : Addr) (wORDINARY : Addr) (wBALANCE_ERROR : Addr) (h0 : Heap) (n0 : Nat) (v : Option Value) (h : Heap) (L : List Loc) : Prop := v = some (.int (f3 p0 p1 u_p0_failing wCARD_ERROR wPARTIAL wBALANCE wCREATE wPAYMENT_ERROR wLOAD wNO_TOPUP wORDINARY wBALANCE_ERROR)) ∧ Fr n0 L ∧ h = h0
set_option maxRecDepth 65536 in
set_option maxHeartbeats 40000000 in
theorem rm3 (l : Launch) (Z : State) (a0 : Array Value) (hw : ∀ d ∈ tables_1, d.before a0 Z = true) (ws : List Jvm.Cond) (p0 : Addr) (p1 : Addr) (u_p0_failing : Addr) (wCARD_ERROR : Addr) (wPARTIAL : Addr) (wBALANCE : Addr) (wCREATE : Addr) (wPAYMENT_ERROR : Addr) (wLOAD : Addr) (wNO_TOPUP : Addr) (wORDINARY : Addr) (wBALANCE_ERROR : Addr) (h0 : Heap) (n0 : Nat) (Z0 : n0 ≤ h0.size) (W0 : World Z h0 wCARD_ERROR wPARTIAL wBALANCE wCREATE wPAYMENT_ERROR wLOAD wNO_TOPUP wORDINARY wBALANCE_ERROR) (G_p0_failing : Fld Z h0 p0 "com/example/cardstand/cardstand/scenario/CardScenario" "failing" "Lcom/example/cardstand/cardstand/scenario/CardScenario$Operation;" (.ref u_p0_failing)) :
    MetFree l (⟨"com/example/cardstand/cardstand/scenario/CardScenario", "fails", "(Lcom/example/cardstand/cardstand/scenario/CardScenario$Operation;)Z"⟩ : MethodName) (head1 (Jvm.Cond.code (⟨"com/example/cardstand/cardstand/scenario/CardScenario", "fails", "(Lcom/example/cardstand/cardstand/scenario/CardScenario$Operation;)Z"⟩ : MethodName) prog_33_method_9_code 2 (some .boolean) :: ws) ({ frames := 0, cells := 0, slots := 0, locals := 0 } : Room)) (fun a U => a = #[(.ref p0), (.ref p1)] ∧ Z.Warmed39 U.vm ∧ U.heap = h0) (fun _ _ _ _ _ => True) (fun _ U o U' => ∃ v L, o = .returned v ∧ Q3 Z p0 p1 u_p0_failing wCARD_ERROR wPARTIAL wBALANCE wCREATE wPAYMENT_ERROR wLOAD wNO_TOPUP wORDINARY wBALANCE_ERROR h0 n0 v U'.heap L ∧ FrameEnd U o U' L ({ frames := 0, cells := 0, slots := 0, locals := 0 } : Room).cells ({ frames := 0, cells := 0, slots := 0, locals := 0 } : Room).slots) := by
  refine MetFree.of_bodySF (plainFor_of_name pn_1) hisR ?_
  intro p e s m args below meth c s₁ Bd hml0 hP hK
  obtain ⟨rfl, hZ, hh⟩ := hP
  have hx := Bd.exec
  have hby := Bd.bytes
  have hml : c.maxLocals = 2 := hml0
  have hown : s.vm.findClass "com/example/cardstand/cardstand/scenario/CardScenario" = some m.cls := findClass_of_methodNamed Bd.named
  have X0 : Stand p l e ({ frames := 0, cells := 0, slots := 0, locals := 0 } : Room) s m #[(.ref p0), (.ref p1)] below meth c s₁ [] 0 0 := Stand.of_body Bd
  have e0 : s₁.heap = h0 := by rw [← hh, Bd.state]; rfl
  have N0 := Fr.nil n0
  have W1 := W0
  obtain ⟨SCARD_ERROR, ECARD_ERROR, SPARTIAL, EPARTIAL, SBALANCE, EBALANCE, FPARTIAL_failing, SCREATE, ECREATE, SPAYMENT_ERROR, EPAYMENT_ERROR, SLOAD, ELOAD, FPAYMENT_ERROR_failing, FCREATE_ordinal, FLOAD_ordinal, SNO_TOPUP, ENO_TOPUP, FNO_TOPUP_failing, FCARD_ERROR_failing, FBALANCE_ordinal, SORDINARY, EORDINARY, FORDINARY_failing, SBALANCE_ERROR, EBALANCE_ERROR, FBALANCE_ERROR_failing, -⟩ := W1
  have pre0 : ∀ t, Steps p.tables e below (s₁.setTop (mkF m 0 #[.val (.ref p0), .val (.ref p1)] [])) t → Steps p.tables e below (s₁.setTop (entryFrame m #[(.ref p0), (.ref p1)] 2)) t := fun t k => castTop (ef_3 m p0 p1) k
  obtain ⟨T26, X26, e26, st26⟩ := getF X0 hx hZ hown (host := "") (Or.inl (hw _ (List.mem_of_getElem? (i := 21) rfl))) Via.refl e0 G_p0_failing (g := (mkF m 6 #[.val (.ref p0), .val (.ref p1)] [(.ref p0), (.ref p1)])) rfl rfl (hb hby d3_6)
  have k27 : ∀ t, Steps p.tables e below (T26.setTop (mkF m 9 #[.val (.ref p0), .val (.ref p1)] [(.ref u_p0_failing), (.ref p1)])) t → Steps p.tables e below (s₁.setTop (entryFrame m #[(.ref p0), (.ref p1)] 2)) t := fun t kt => pre0 t (by
    show Steps p.tables e below (s₁.setTop (mkF m 0 #[.val (.ref p0), .val (.ref p1)] [])) _
    refine XS.aloadN X0.here hx rfl (hb hby d3_0) rfl rfl ?_
    show Steps p.tables e below (s₁.setTop (mkF m 1 #[.val (.ref p0), .val (.ref p1)] [(.ref p1)])) _
    refine XS.ifnullNo X0.here hx rfl (hb hby d3_1) rfl ?_
    show Steps p.tables e below (s₁.setTop (mkF m 4 #[.val (.ref p0), .val (.ref p1)] [])) _
    refine XS.aloadN X0.here hx rfl (hb hby d3_4) rfl rfl ?_
    show Steps p.tables e below (s₁.setTop (mkF m 5 #[.val (.ref p0), .val (.ref p1)] [(.ref p1)])) _
    refine XS.aloadN X0.here hx rfl (hb hby d3_5) rfl rfl ?_
    show Steps p.tables e below (s₁.setTop (mkF m 6 #[.val (.ref p0), .val (.ref p1)] [(.ref p0), (.ref p1)])) _
    refine st26 _ ?_
    exact kt)
  by_cases hc28 : p1 = u_p0_failing
  · obtain ⟨fs, hr, hrun, hended, hW, hsame⟩ := X26.leave (v := some (.int (1 : Int32))) (fun h => by rw [Bd.returns] at h; cases h)
    refine ⟨_, _, k27 _ ?_, hrun, hended, _, _, rfl, ?_, ⟨_, rfl⟩, hW, hsame.mono (by decide) (by decide)⟩
    · show Steps p.tables e below (T26.setTop (mkF m 9 #[.val (.ref p0), .val (.ref p1)] [(.ref u_p0_failing), (.ref p1)])) _
      refine Jvm.RoadKit.acmp (g := (mkF m 9 #[.val (.ref p0), .val (.ref p1)] [(.ref u_p0_failing), (.ref p1)])) X26 hx rfl rfl rfl (pc0 := 9) (pc' := 12) (same := true) rfl (hb hby d3_9) rfl (decide_eq_true (congrArg Value.ref (hc28 : p1 = u_p0_failing))) (by decide) (by decide) ?_
      show Steps p.tables e below (T26.setTop (mkF m 12 #[.val (.ref p0), .val (.ref p1)] [])) _
      refine XS.iconst X26.here hx rfl (hb hby d3_12) ?_
      show Steps p.tables e below (T26.setTop (mkF m 13 #[.val (.ref p0), .val (.ref p1)] [(.int (1 : Int32))])) _
      refine XS.goto X26.here hx rfl (pc0 := 13) (pc' := 17) rfl (hb hby d3_13) (by decide) (by decide) ?_
      show Steps p.tables e below (T26.setTop (mkF m 17 #[.val (.ref p0), .val (.ref p1)] [(.int (1 : Int32))])) _
      exact retN X26 hx (t := .boolean) Bd.returns (by simp) (hb hby d3_17) hr
    · show Q3 Z p0 p1 u_p0_failing wCARD_ERROR wPARTIAL wBALANCE wCREATE wPAYMENT_ERROR wLOAD wNO_TOPUP wORDINARY wBALANCE_ERROR h0 n0 _ T26.heap _
      rw [e26]
      exact ⟨by rw [f3, if_pos hc28], N0, rfl⟩
  · obtain ⟨fs, hr, hrun, hended, hW, hsame⟩ := X26.leave (v := some (.int (0 : Int32))) (fun h => by rw [Bd.returns] at h; cases h)
    refine ⟨_, _, k27 _ ?_, hrun, hended, _, _, rfl, ?_, ⟨_, rfl⟩, hW, hsame.mono (by decide) (by decide)⟩
    · show Steps p.tables e below (T26.setTop (mkF m 9 #[.val (.ref p0), .val (.ref p1)] [(.ref u_p0_failing), (.ref p1)])) _
      refine Jvm.RoadKit.acmp (g := (mkF m 9 #[.val (.ref p0), .val (.ref p1)] [(.ref u_p0_failing), (.ref p1)])) X26 hx rfl rfl rfl (pc0 := 9) (pc' := 16) (same := false) rfl (hb hby d3_9) rfl (decide_eq_false fun q => (hc28 : ¬ (p1 = u_p0_failing)) (Value.ref.inj q)) (by decide) (by decide) ?_
      show Steps p.tables e below (T26.setTop (mkF m 16 #[.val (.ref p0), .val (.ref p1)] [])) _
      refine XS.iconst X26.here hx rfl (hb hby d3_16) ?_
      show Steps p.tables e below (T26.setTop (mkF m 17 #[.val (.ref p0), .val (.ref p1)] [(.int (0 : Int32))])) _
      exact retN X26 hx (t := .boolean) Bd.returns (by simp) (hb hby d3_17) hr
    · show Q3 Z p0 p1 u_p0_failing wCARD_ERROR wPARTIAL wBALANCE wCREATE wPAYMENT_ERROR wLOAD wNO_TOPUP wORDINARY wBALANCE_ERROR h0 n0 _ T26.heap _
      rw [e26]
      exact ⟨by rw [f3, if_neg hc28], N0, rfl⟩

def f4 (p0 : Addr) (p1 : Addr) (wCARD_ERROR : Addr) (wPARTIAL : Addr) (wBALANCE : Addr) (wCREATE : Addr) (wPAYMENT_ERROR : Addr) (wLOAD : Addr) (wNO_TOPUP : Addr) (wORDINARY : Addr) (wBALANCE_ERROR : Addr) : Int32 := (0 : Int32)
theorem ef_4 (m : MethodId) (p0 : Addr) (p1 : Addr) : entryFrame m #[(.ref p0), (.ref p1)] 2 = mkF m 0 #[.val (.ref p0), .val (.ref p1)] [] := by first | (simp [entryFrame, mkF, argsToLocals, Value.category]; done) | rfl
def Q4 (Z : State) (p0 : Addr) (p1 : Addr) (wCARD_ERROR : Addr) (wPARTIAL : Addr) (wBALANCE : Addr) (wCREATE : Addr) (wPAYMENT_ERROR : Addr) (wLOAD : Addr) (wNO_TOPUP : Addr) (wORDINARY : Addr) (wBALANCE_ERROR : Addr) (h0 : Heap) (n0 : Nat) (v : Option Value) (h : Heap) (L : List Loc) : Prop := v = some (.int (f4 p0 p1 wCARD_ERROR wPARTIAL wBALANCE wCREATE wPAYMENT_ERROR wLOAD wNO_TOPUP wORDINARY wBALANCE_ERROR)) ∧ Fr n0 L ∧ h = h0
set_option maxRecDepth 65536 in
set_option maxHeartbeats 40000000 in
theorem rm4 (l : Launch) (Z : State) (a0 : Array Value) (hw : ∀ d ∈ tables_1, d.before a0 Z = true) (ws : List Jvm.Cond) (p0 : Addr) (p1 : Addr) (wCARD_ERROR : Addr) (wPARTIAL : Addr) (wBALANCE : Addr) (wCREATE : Addr) (wPAYMENT_ERROR : Addr) (wLOAD : Addr) (wNO_TOPUP : Addr) (wORDINARY : Addr) (wBALANCE_ERROR : Addr) (h0 : Heap) (n0 : Nat) (Z0 : n0 ≤ h0.size) (W0 : World Z h0 wCARD_ERROR wPARTIAL wBALANCE wCREATE wPAYMENT_ERROR wLOAD wNO_TOPUP wORDINARY wBALANCE_ERROR) (G_p0_failing : Fld Z h0 p0 "com/example/cardstand/cardstand/scenario/CardScenario" "failing" "Lcom/example/cardstand/cardstand/scenario/CardScenario$Operation;" .null) :
    MetFree l (⟨"com/example/cardstand/cardstand/scenario/CardScenario", "fails", "(Lcom/example/cardstand/cardstand/scenario/CardScenario$Operation;)Z"⟩ : MethodName) (head1 (Jvm.Cond.code (⟨"com/example/cardstand/cardstand/scenario/CardScenario", "fails", "(Lcom/example/cardstand/cardstand/scenario/CardScenario$Operation;)Z"⟩ : MethodName) prog_33_method_9_code 2 (some .boolean) :: ws) ({ frames := 0, cells := 0, slots := 0, locals := 0 } : Room)) (fun a U => a = #[(.ref p0), (.ref p1)] ∧ Z.Warmed39 U.vm ∧ U.heap = h0) (fun _ _ _ _ _ => True) (fun _ U o U' => ∃ v L, o = .returned v ∧ Q4 Z p0 p1 wCARD_ERROR wPARTIAL wBALANCE wCREATE wPAYMENT_ERROR wLOAD wNO_TOPUP wORDINARY wBALANCE_ERROR h0 n0 v U'.heap L ∧ FrameEnd U o U' L ({ frames := 0, cells := 0, slots := 0, locals := 0 } : Room).cells ({ frames := 0, cells := 0, slots := 0, locals := 0 } : Room).slots) := by
  refine MetFree.of_bodySF (plainFor_of_name pn_1) hisR ?_
  intro p e s m args below meth c s₁ Bd hml0 hP hK
  obtain ⟨rfl, hZ, hh⟩ := hP
  have hx := Bd.exec
  have hby := Bd.bytes
  have hml : c.maxLocals = 2 := hml0
  have hown : s.vm.findClass "com/example/cardstand/cardstand/scenario/CardScenario" = some m.cls := findClass_of_methodNamed Bd.named
  have X0 : Stand p l e ({ frames := 0, cells := 0, slots := 0, locals := 0 } : Room) s m #[(.ref p0), (.ref p1)] below meth c s₁ [] 0 0 := Stand.of_body Bd
  have e0 : s₁.heap = h0 := by rw [← hh, Bd.state]; rfl
  have N0 := Fr.nil n0
  have W1 := W0
  obtain ⟨SCARD_ERROR, ECARD_ERROR, SPARTIAL, EPARTIAL, SBALANCE, EBALANCE, FPARTIAL_failing, SCREATE, ECREATE, SPAYMENT_ERROR, EPAYMENT_ERROR, SLOAD, ELOAD, FPAYMENT_ERROR_failing, FCREATE_ordinal, FLOAD_ordinal, SNO_TOPUP, ENO_TOPUP, FNO_TOPUP_failing, FCARD_ERROR_failing, FBALANCE_ordinal, SORDINARY, EORDINARY, FORDINARY_failing, SBALANCE_ERROR, EBALANCE_ERROR, FBALANCE_ERROR_failing, -⟩ := W1
  have pre0 : ∀ t, Steps p.tables e below (s₁.setTop (mkF m 0 #[.val (.ref p0), .val (.ref p1)] [])) t → Steps p.tables e below (s₁.setTop (entryFrame m #[(.ref p0), (.ref p1)] 2)) t := fun t k => castTop (ef_4 m p0 p1) k
  obtain ⟨T29, X29, e29, st29⟩ := getF X0 hx hZ hown (host := "") (Or.inl (hw _ (List.mem_of_getElem? (i := 21) rfl))) Via.refl e0 G_p0_failing (g := (mkF m 6 #[.val (.ref p0), .val (.ref p1)] [(.ref p0), (.ref p1)])) rfl rfl (hb hby d3_6)
  obtain ⟨fs, hr, hrun, hended, hW, hsame⟩ := X29.leave (v := some (.int (0 : Int32))) (fun h => by rw [Bd.returns] at h; cases h)
  refine ⟨_, _, pre0 _ ?_, hrun, hended, _, _, rfl, ?_, ⟨_, rfl⟩, hW, hsame.mono (by decide) (by decide)⟩
  · show Steps p.tables e below (s₁.setTop (mkF m 0 #[.val (.ref p0), .val (.ref p1)] [])) _
    refine XS.aloadN X0.here hx rfl (hb hby d3_0) rfl rfl ?_
    show Steps p.tables e below (s₁.setTop (mkF m 1 #[.val (.ref p0), .val (.ref p1)] [(.ref p1)])) _
    refine XS.ifnullNo X0.here hx rfl (hb hby d3_1) rfl ?_
    show Steps p.tables e below (s₁.setTop (mkF m 4 #[.val (.ref p0), .val (.ref p1)] [])) _
    refine XS.aloadN X0.here hx rfl (hb hby d3_4) rfl rfl ?_
    show Steps p.tables e below (s₁.setTop (mkF m 5 #[.val (.ref p0), .val (.ref p1)] [(.ref p1)])) _
    refine XS.aloadN X0.here hx rfl (hb hby d3_5) rfl rfl ?_
    show Steps p.tables e below (s₁.setTop (mkF m 6 #[.val (.ref p0), .val (.ref p1)] [(.ref p0), (.ref p1)])) _
    refine st29 _ ?_
    show Steps p.tables e below (T29.setTop (mkF m 9 #[.val (.ref p0), .val (.ref p1)] [.null, (.ref p1)])) _
    refine Jvm.RoadKit.acmp (g := (mkF m 9 #[.val (.ref p0), .val (.ref p1)] [.null, (.ref p1)])) X29 hx rfl rfl rfl (pc0 := 9) (pc' := 16) (same := false) rfl (hb hby d3_9) rfl (decide_eq_false nofun) (by decide) (by decide) ?_
    show Steps p.tables e below (T29.setTop (mkF m 16 #[.val (.ref p0), .val (.ref p1)] [])) _
    refine XS.iconst X29.here hx rfl (hb hby d3_16) ?_
    show Steps p.tables e below (T29.setTop (mkF m 17 #[.val (.ref p0), .val (.ref p1)] [(.int (0 : Int32))])) _
    exact retN X29 hx (t := .boolean) Bd.returns (by simp) (hb hby d3_17) hr
  · show Q4 Z p0 p1 wCARD_ERROR wPARTIAL wBALANCE wCREATE wPAYMENT_ERROR wLOAD wNO_TOPUP wORDINARY wBALANCE_ERROR h0 n0 _ T29.heap _
    rw [e29]
    exact ⟨by rw [f4], N0, rfl⟩

def f5 (p0 : Addr) (wCARD_ERROR : Addr) (wPARTIAL : Addr) (wBALANCE : Addr) (wCREATE : Addr) (wPAYMENT_ERROR : Addr) (wLOAD : Addr) (wNO_TOPUP : Addr) (wORDINARY : Addr) (wBALANCE_ERROR : Addr) : Int32 := (0 : Int32)
theorem ef_5 (m : MethodId) (p0 : Addr) : entryFrame m #[(.ref p0), .null] 2 = mkF m 0 #[.val (.ref p0), .val .null] [] := by first | (simp [entryFrame, mkF, argsToLocals, Value.category]; done) | rfl
def Q5 (Z : State) (p0 : Addr) (wCARD_ERROR : Addr) (wPARTIAL : Addr) (wBALANCE : Addr) (wCREATE : Addr) (wPAYMENT_ERROR : Addr) (wLOAD : Addr) (wNO_TOPUP : Addr) (wORDINARY : Addr) (wBALANCE_ERROR : Addr) (h0 : Heap) (n0 : Nat) (v : Option Value) (h : Heap) (L : List Loc) : Prop := v = some (.int (f5 p0 wCARD_ERROR wPARTIAL wBALANCE wCREATE wPAYMENT_ERROR wLOAD wNO_TOPUP wORDINARY wBALANCE_ERROR)) ∧ Fr n0 L ∧ h = h0
set_option maxRecDepth 65536 in
set_option maxHeartbeats 40000000 in
theorem rm5 (l : Launch) (Z : State) (a0 : Array Value) (hw : ∀ d ∈ tables_1, d.before a0 Z = true) (ws : List Jvm.Cond) (p0 : Addr) (wCARD_ERROR : Addr) (wPARTIAL : Addr) (wBALANCE : Addr) (wCREATE : Addr) (wPAYMENT_ERROR : Addr) (wLOAD : Addr) (wNO_TOPUP : Addr) (wORDINARY : Addr) (wBALANCE_ERROR : Addr) (h0 : Heap) (n0 : Nat) (Z0 : n0 ≤ h0.size) (W0 : World Z h0 wCARD_ERROR wPARTIAL wBALANCE wCREATE wPAYMENT_ERROR wLOAD wNO_TOPUP wORDINARY wBALANCE_ERROR) :
    MetFree l (⟨"com/example/cardstand/cardstand/scenario/CardScenario", "fails", "(Lcom/example/cardstand/cardstand/scenario/CardScenario$Operation;)Z"⟩ : MethodName) (head1 (Jvm.Cond.code (⟨"com/example/cardstand/cardstand/scenario/CardScenario", "fails", "(Lcom/example/cardstand/cardstand/scenario/CardScenario$Operation;)Z"⟩ : MethodName) prog_33_method_9_code 2 (some .boolean) :: ws) ({ frames := 0, cells := 0, slots := 0, locals := 0 } : Room)) (fun a U => a = #[(.ref p0), .null] ∧ Z.Warmed39 U.vm ∧ U.heap = h0) (fun _ _ _ _ _ => True) (fun _ U o U' => ∃ v L, o = .returned v ∧ Q5 Z p0 wCARD_ERROR wPARTIAL wBALANCE wCREATE wPAYMENT_ERROR wLOAD wNO_TOPUP wORDINARY wBALANCE_ERROR h0 n0 v U'.heap L ∧ FrameEnd U o U' L ({ frames := 0, cells := 0, slots := 0, locals := 0 } : Room).cells ({ frames := 0, cells := 0, slots := 0, locals := 0 } : Room).slots) := by
  refine MetFree.of_bodySF (plainFor_of_name pn_1) hisR ?_
  intro p e s m args below meth c s₁ Bd hml0 hP hK
  obtain ⟨rfl, hZ, hh⟩ := hP
  have hx := Bd.exec
  have hby := Bd.bytes
  have hml : c.maxLocals = 2 := hml0
  have hown : s.vm.findClass "com/example/cardstand/cardstand/scenario/CardScenario" = some m.cls := findClass_of_methodNamed Bd.named
  have X0 : Stand p l e ({ frames := 0, cells := 0, slots := 0, locals := 0 } : Room) s m #[(.ref p0), .null] below meth c s₁ [] 0 0 := Stand.of_body Bd
  have e0 : s₁.heap = h0 := by rw [← hh, Bd.state]; rfl
  have N0 := Fr.nil n0
  have W1 := W0
  obtain ⟨SCARD_ERROR, ECARD_ERROR, SPARTIAL, EPARTIAL, SBALANCE, EBALANCE, FPARTIAL_failing, SCREATE, ECREATE, SPAYMENT_ERROR, EPAYMENT_ERROR, SLOAD, ELOAD, FPAYMENT_ERROR_failing, FCREATE_ordinal, FLOAD_ordinal, SNO_TOPUP, ENO_TOPUP, FNO_TOPUP_failing, FCARD_ERROR_failing, FBALANCE_ordinal, SORDINARY, EORDINARY, FORDINARY_failing, SBALANCE_ERROR, EBALANCE_ERROR, FBALANCE_ERROR_failing, -⟩ := W1
  have pre0 : ∀ t, Steps p.tables e below (s₁.setTop (mkF m 0 #[.val (.ref p0), .val .null] [])) t → Steps p.tables e below (s₁.setTop (entryFrame m #[(.ref p0), .null] 2)) t := fun t k => castTop (ef_5 m p0) k
  obtain ⟨fs, hr, hrun, hended, hW, hsame⟩ := X0.leave (v := some (.int (0 : Int32))) (fun h => by rw [Bd.returns] at h; cases h)
  refine ⟨_, _, pre0 _ ?_, hrun, hended, _, _, rfl, ?_, ⟨_, rfl⟩, hW, hsame.mono (by decide) (by decide)⟩
  · show Steps p.tables e below (s₁.setTop (mkF m 0 #[.val (.ref p0), .val .null] [])) _
    refine XS.aloadN X0.here hx rfl (hb hby d3_0) rfl rfl ?_
    show Steps p.tables e below (s₁.setTop (mkF m 1 #[.val (.ref p0), .val .null] [.null])) _
    refine XS.ifnullYes X0.here hx rfl (pc0 := 1) (pc' := 16) rfl (hb hby d3_1) rfl (by decide) (by decide) ?_
    show Steps p.tables e below (s₁.setTop (mkF m 16 #[.val (.ref p0), .val .null] [])) _
    refine XS.iconst X0.here hx rfl (hb hby d3_16) ?_
    show Steps p.tables e below (s₁.setTop (mkF m 17 #[.val (.ref p0), .val .null] [(.int (0 : Int32))])) _
    exact retN X0 hx (t := .boolean) Bd.returns (by simp) (hb hby d3_17) hr
  · show Q5 Z p0 wCARD_ERROR wPARTIAL wBALANCE wCREATE wPAYMENT_ERROR wLOAD wNO_TOPUP wORDINARY wBALANCE_ERROR h0 n0 _ s₁.heap _
    rw [e0]
    exact ⟨by rw [f5], N0, rfl⟩
theorem pd_0 : parseMethodDescriptor "(I)Lcom/example/cardstand/cardstand/scenario/CardScenario;" = some ⟨[.int], some (.object "com/example/cardstand/cardstand/scenario/CardScenario")⟩ := by decide +kernel
theorem pd_1 : parseMethodDescriptor "(I)Lcom/example/cardstand/cardstand/scenario/CardScenario$Operation;" = some ⟨[.int], some (.object "com/example/cardstand/cardstand/scenario/CardScenario$Operation")⟩ := by decide +kernel
theorem pd_2 : parseMethodDescriptor "(Lcom/example/cardstand/cardstand/scenario/CardScenario$Operation;)Z" = some ⟨[(.object "com/example/cardstand/cardstand/scenario/CardScenario$Operation")], some .boolean⟩ := by decide +kernel
theorem ef_0 (m : MethodId) (p0 : Int32) (p1 : Int32) : entryFrame m #[(.int p0), (.int p1)] maxLocals = mkF m 0 #[.val (.int p0), .val (.int p1), .unset, .unset, .unset, .unset, .unset] [] := by first | (simp [entryFrame, mkF, argsToLocals, Value.category, maxLocals]; done) | rfl
def Q0 (Z : State) (p0 : Int32) (p1 : Int32) (wCARD_ERROR : Addr) (wPARTIAL : Addr) (wBALANCE : Addr) (wCREATE : Addr) (wPAYMENT_ERROR : Addr) (wLOAD : Addr) (wNO_TOPUP : Addr) (wORDINARY : Addr) (wBALANCE_ERROR : Addr) (h0 : Heap) (n0 : Nat) (v : Option Value) (h : Heap) (L : List Loc) : Prop := v = some (.int 1) ∧ Fr n0 L
set_option maxRecDepth 65536 in
set_option maxHeartbeats 40000000 in
theorem rm0 (l : Launch) (Z : State) (a0 : Array Value) (hw : ∀ d ∈ tables_1, d.before a0 Z = true) (ws : List Jvm.Cond) (p0 : Int32) (p1 : Int32) (wCARD_ERROR : Addr) (wPARTIAL : Addr) (wBALANCE : Addr) (wCREATE : Addr) (wPAYMENT_ERROR : Addr) (wLOAD : Addr) (wNO_TOPUP : Addr) (wORDINARY : Addr) (wBALANCE_ERROR : Addr) (h0 : Heap) (n0 : Nat) (Z0 : n0 ≤ h0.size) (W0 : World Z h0 wCARD_ERROR wPARTIAL wBALANCE wCREATE wPAYMENT_ERROR wLOAD wNO_TOPUP wORDINARY wBALANCE_ERROR) :
    MetFree l x (head1 (Jvm.Cond.code x code maxLocals ret :: ws) room_1) (fun a U => a = #[(.int p0), (.int p1)] ∧ Z.Warmed39 U.vm ∧ U.heap = h0) (fun _ _ _ _ _ => True) (fun _ U o U' => ∃ v L, o = .returned v ∧ Q0 Z p0 p1 wCARD_ERROR wPARTIAL wBALANCE wCREATE wPAYMENT_ERROR wLOAD wNO_TOPUP wORDINARY wBALANCE_ERROR h0 n0 v U'.heap L ∧ FrameEnd U o U' L room_1.cells room_1.slots) := by
  refine MetFree.of_bodySF (plainFor_of_name pn_0) hisR ?_
  intro p e s m args below meth c s₁ Bd hml0 hP hK
  obtain ⟨rfl, hZ, hh⟩ := hP
  have hx := Bd.exec
  have hby := Bd.bytes
  have hml : c.maxLocals = 7 := hml0
  have hown : s.vm.findClass "com/example/cardstand/cardstand/scenario/CardScenarioFailsPinLaw" = some m.cls := findClass_of_methodNamed Bd.named
  have X0 : Stand p l e room_1 s m #[(.int p0), (.int p1)] below meth c s₁ [] 0 0 := Stand.of_body Bd
  have e0 : s₁.heap = h0 := by rw [← hh, Bd.state]; rfl
  have N0 := Fr.nil n0
  have W1 := W0
  obtain ⟨SCARD_ERROR, ECARD_ERROR, SPARTIAL, EPARTIAL, SBALANCE, EBALANCE, FPARTIAL_failing, SCREATE, ECREATE, SPAYMENT_ERROR, EPAYMENT_ERROR, SLOAD, ELOAD, FPAYMENT_ERROR_failing, FCREATE_ordinal, FLOAD_ordinal, SNO_TOPUP, ENO_TOPUP, FNO_TOPUP_failing, FCARD_ERROR_failing, FBALANCE_ordinal, SORDINARY, EORDINARY, FORDINARY_failing, SBALANCE_ERROR, EBALANCE_ERROR, FBALANCE_ERROR_failing, -⟩ := W1
  have pre0 : ∀ t, Steps p.tables e below (s₁.setTop (mkF m 0 #[.val (.int p0), .val (.int p1), .unset, .unset, .unset, .unset, .unset] [])) t → Steps p.tables e below (s₁.setTop (entryFrame m #[(.int p0), (.int p1)] maxLocals)) t := fun t k => castTop (ef_0 m p0 p1) k
  obtain ⟨i30, hi30⟩ : ∃ z, z = ((p0 &&& (2147483647 : Int32)) % (6 : Int32)) := ⟨_, rfl⟩
  have k31 : ∀ t, Steps p.tables e below (s₁.setTop (mkF m 8 #[.val (.int p0), .val (.int p1), .val (.int i30), .unset, .unset, .unset, .unset] [])) t → Steps p.tables e below (s₁.setTop (entryFrame m #[(.int p0), (.int p1)] maxLocals)) t := fun t kt => pre0 t (by
    show Steps p.tables e below (s₁.setTop (mkF m 0 #[.val (.int p0), .val (.int p1), .unset, .unset, .unset, .unset, .unset] [])) _
    refine XS.iloadN X0.here hx rfl (hb hby at_0) rfl ?_
    show Steps p.tables e below (s₁.setTop (mkF m 1 #[.val (.int p0), .val (.int p1), .unset, .unset, .unset, .unset, .unset] [(.int p0)])) _
    refine X0.ldcInt hx hown (mvT hZ (hw _ (List.mem_of_getElem? (i := 0) rfl))) (g := (mkF m 1 #[.val (.int p0), .val (.int p1), .unset, .unset, .unset, .unset, .unset] [(.int p0)])) rfl (hb hby at_1) _ ?_
    show Steps p.tables e below (s₁.setTop (mkF m 3 #[.val (.int p0), .val (.int p1), .unset, .unset, .unset, .unset, .unset] [(.int (2147483647 : Int32)), (.int p0)])) _
    refine XS.iand X0.here hx rfl (hb hby at_3) rfl ?_
    show Steps p.tables e below (s₁.setTop (mkF m 4 #[.val (.int p0), .val (.int p1), .unset, .unset, .unset, .unset, .unset] [(.int (p0 &&& (2147483647 : Int32)))])) _
    refine XS.bipush X0.here hx rfl (hb hby at_4) ?_
    show Steps p.tables e below (s₁.setTop (mkF m 6 #[.val (.int p0), .val (.int p1), .unset, .unset, .unset, .unset, .unset] [(.int (6 : Int32)), (.int (p0 &&& (2147483647 : Int32)))])) _
    refine iremM X0 hx rfl (hb hby at_6) rfl (by decide) ?_
    rw [← hi30]
    show Steps p.tables e below (s₁.setTop (mkF m 7 #[.val (.int p0), .val (.int p1), .unset, .unset, .unset, .unset, .unset] [(.int i30)])) _
    refine XS.istoreN X0.here hx rfl (hb hby at_7) rfl (l' := #[.val (.int p0), .val (.int p1), .val (.int i30), .unset, .unset, .unset, .unset]) rfl ?_
    exact kt)
  rcases own_cases6 hi30 with hv32 | hv32 | hv32 | hv32 | hv32 | hv32
  · subst hv32
    obtain ⟨i33, hi33⟩ : ∃ z, z = ((p1 &&& (2147483647 : Int32)) % (4 : Int32)) := ⟨_, rfl⟩
    have k34 : ∀ t, Steps p.tables e below (s₁.setTop (mkF m 15 #[.val (.int p0), .val (.int p1), .val (.int (0 : Int32)), .val (.int i33), .unset, .unset, .unset] [])) t → Steps p.tables e below (s₁.setTop (entryFrame m #[(.int p0), (.int p1)] maxLocals)) t := fun t kt => k31 t (by
      show Steps p.tables e below (s₁.setTop (mkF m 8 #[.val (.int p0), .val (.int p1), .val (.int (0 : Int32)), .unset, .unset, .unset, .unset] [])) _
      refine XS.iloadN X0.here hx rfl (hb hby at_8) rfl ?_
      show Steps p.tables e below (s₁.setTop (mkF m 9 #[.val (.int p0), .val (.int p1), .val (.int (0 : Int32)), .unset, .unset, .unset, .unset] [(.int p1)])) _
      refine X0.ldcInt hx hown (mvT hZ (hw _ (List.mem_of_getElem? (i := 0) rfl))) (g := (mkF m 9 #[.val (.int p0), .val (.int p1), .val (.int (0 : Int32)), .unset, .unset, .unset, .unset] [(.int p1)])) rfl (hb hby at_9) _ ?_
      show Steps p.tables e below (s₁.setTop (mkF m 11 #[.val (.int p0), .val (.int p1), .val (.int (0 : Int32)), .unset, .unset, .unset, .unset] [(.int (2147483647 : Int32)), (.int p1)])) _
      refine XS.iand X0.here hx rfl (hb hby at_11) rfl ?_
      show Steps p.tables e below (s₁.setTop (mkF m 12 #[.val (.int p0), .val (.int p1), .val (.int (0 : Int32)), .unset, .unset, .unset, .unset] [(.int (p1 &&& (2147483647 : Int32)))])) _
      refine XS.iconst X0.here hx rfl (hb hby at_12) ?_
      show Steps p.tables e below (s₁.setTop (mkF m 13 #[.val (.int p0), .val (.int p1), .val (.int (0 : Int32)), .unset, .unset, .unset, .unset] [(.int (4 : Int32)), (.int (p1 &&& (2147483647 : Int32)))])) _
      refine iremM X0 hx rfl (hb hby at_13) rfl (by decide) ?_
      rw [← hi33]
      show Steps p.tables e below (s₁.setTop (mkF m 14 #[.val (.int p0), .val (.int p1), .val (.int (0 : Int32)), .unset, .unset, .unset, .unset] [(.int i33)])) _
      refine XS.istoreN X0.here hx rfl (hb hby at_14) rfl (l' := #[.val (.int p0), .val (.int p1), .val (.int (0 : Int32)), .val (.int i33), .unset, .unset, .unset]) rfl ?_
      exact kt)
    rcases own_cases4 hi33 with hv35 | hv35 | hv35 | hv35
    · subst hv35
      obtain ⟨_, _, ⟨T36, L36, k36, n36⟩, -, X36, ⟨Lc36, hQ36, l36, y36, z36⟩, st36⟩ := Jvm.LawKit.callS X0 hx (y := (⟨"com/example/cardstand/cardstand/scenario/CardScenarioFailsPinLaw", "scenario", "(I)Lcom/example/cardstand/cardstand/scenario/CardScenario;"⟩ : MethodName)) hown (mvT hZ (hw _ (List.mem_of_getElem? (i := 1) rfl))) (mvT hZ (hw _ (List.mem_of_getElem? (i := 2) rfl))) (mvT hZ (hw _ (List.mem_of_getElem? (i := 3) rfl))) (mvT hZ (hw _ (List.mem_of_getElem? (i := 4) rfl))) (by decide) (backOf (W := 0) (rm1 l Z a0 hw [] (0 : Int32) wCARD_ERROR wPARTIAL wBALANCE wCREATE wPAYMENT_ERROR wLOAD wNO_TOPUP wORDINARY wBALANCE_ERROR h0 n0 Z0 W0 ) hZ (hw _ (List.mem_of_getElem? (i := 4) rfl)) (hw _ (List.mem_of_getElem? (i := 3) rfl)) (by decide) (by decide)) (g := (mkF m 16 #[.val (.int p0), .val (.int p1), .val (.int (0 : Int32)), .val (.int (0 : Int32)), .unset, .unset, .unset] [(.int (0 : Int32))])) rfl (by rw [hml]; rfl) (argsL := [(.int (0 : Int32))]) (rest := []) (lenOf pd_0 rfl) rfl (by show 2 * 0 + _ ≤ _; exact Nat.le_of_eq rfl) (hb hby at_16) (fun _ _ => ⟨rfl, e0, (by decide : 0 + 0 ≤ _), (by decide : 0 + 0 ≤ _)⟩)
      dsimp only [Pt.U, Pt.locs, Pt.cells, Pt.slots] at X36 l36 y36 z36 st36 hQ36
      subst l36 y36 z36
      unfold Q1 at hQ36
      have k37 : ∀ t, Steps p.tables e below (s₁.setTop (mkF m 16 #[.val (.int p0), .val (.int p1), .val (.int (0 : Int32)), .val (.int (0 : Int32)), .unset, .unset, .unset] [(.int (0 : Int32))])) t → Steps p.tables e below (s₁.setTop (entryFrame m #[(.int p0), (.int p1)] maxLocals)) t := fun t kt => k34 t (by
        show Steps p.tables e below (s₁.setTop (mkF m 15 #[.val (.int p0), .val (.int p1), .val (.int (0 : Int32)), .val (.int (0 : Int32)), .unset, .unset, .unset] [])) _
        refine XS.iloadN X0.here hx rfl (hb hby at_15) rfl ?_
        exact kt)
      rw [((by rw [f1, if_pos (rfl : (0 : Int32) = (0 : Int32))]) : (f1 (0 : Int32) wCARD_ERROR wPARTIAL wBALANCE wCREATE wPAYMENT_ERROR wLOAD wNO_TOPUP wORDINARY wBALANCE_ERROR) = wCARD_ERROR)] at hQ36
      obtain ⟨rfl, N36q, e36⟩ := hQ36
      have N36 := Fr.app N0 N36q
      obtain ⟨_, _, ⟨T38, L38, k38, n38⟩, -, X38, ⟨Lc38, hQ38, l38, y38, z38⟩, st38⟩ := Jvm.LawKit.callS X36 hx (y := (⟨"com/example/cardstand/cardstand/scenario/CardScenarioFailsPinLaw", "operation", "(I)Lcom/example/cardstand/cardstand/scenario/CardScenario$Operation;"⟩ : MethodName)) hown (mvT hZ (hw _ (List.mem_of_getElem? (i := 8) rfl))) (mvT hZ (hw _ (List.mem_of_getElem? (i := 9) rfl))) (mvT hZ (hw _ (List.mem_of_getElem? (i := 3) rfl))) (mvT hZ (hw _ (List.mem_of_getElem? (i := 10) rfl))) (by decide) (backOf (W := 0) (rm2 l Z a0 hw [] (0 : Int32) wCARD_ERROR wPARTIAL wBALANCE wCREATE wPAYMENT_ERROR wLOAD wNO_TOPUP wORDINARY wBALANCE_ERROR h0 n0 Z0 W0 ) hZ (hw _ (List.mem_of_getElem? (i := 10) rfl)) (hw _ (List.mem_of_getElem? (i := 3) rfl)) (by decide) (by decide)) (g := (mkF m 22 #[.val (.int p0), .val (.int p1), .val (.int (0 : Int32)), .val (.int (0 : Int32)), .val (.ref wCARD_ERROR), .unset, .unset] [(.int (0 : Int32))])) rfl (by rw [hml]; rfl) (argsL := [(.int (0 : Int32))]) (rest := []) (lenOf pd_1 rfl) rfl (by show 2 * 0 + _ ≤ _; exact Nat.le_of_eq rfl) (hb hby at_22) (fun _ _ => ⟨rfl, e36, (by decide : 0 + 0 ≤ _), (by decide : 0 + 0 ≤ _)⟩)
      dsimp only [Pt.U, Pt.locs, Pt.cells, Pt.slots] at X38 l38 y38 z38 st38 hQ38
      subst l38 y38 z38
      unfold Q2 at hQ38
      have k39 : ∀ t, Steps p.tables e below (T36.setTop (mkF m 22 #[.val (.int p0), .val (.int p1), .val (.int (0 : Int32)), .val (.int (0 : Int32)), .val (.ref wCARD_ERROR), .unset, .unset] [(.int (0 : Int32))])) t → Steps p.tables e below (s₁.setTop (entryFrame m #[(.int p0), (.int p1)] maxLocals)) t := fun t kt => k37 t (by
        show Steps p.tables e below (s₁.setTop (mkF m 16 #[.val (.int p0), .val (.int p1), .val (.int (0 : Int32)), .val (.int (0 : Int32)), .unset, .unset, .unset] [(.int (0 : Int32))])) _
        refine st36 _ ?_
        show Steps p.tables e below (T36.setTop (mkF m 19 #[.val (.int p0), .val (.int p1), .val (.int (0 : Int32)), .val (.int (0 : Int32)), .unset, .unset, .unset] [(.ref wCARD_ERROR)])) _
        refine XS.astore X36.here hx rfl (hb hby at_19) rfl rfl (l' := #[.val (.int p0), .val (.int p1), .val (.int (0 : Int32)), .val (.int (0 : Int32)), .val (.ref wCARD_ERROR), .unset, .unset]) rfl ?_
        show Steps p.tables e below (T36.setTop (mkF m 21 #[.val (.int p0), .val (.int p1), .val (.int (0 : Int32)), .val (.int (0 : Int32)), .val (.ref wCARD_ERROR), .unset, .unset] [])) _
        refine XS.iloadN X36.here hx rfl (hb hby at_21) rfl ?_
        exact kt)
      rw [((by rw [f2, if_pos (rfl : (0 : Int32) = (0 : Int32))]) : (f2 (0 : Int32) wCARD_ERROR wPARTIAL wBALANCE wCREATE wPAYMENT_ERROR wLOAD wNO_TOPUP wORDINARY wBALANCE_ERROR) = (.ref wCREATE))] at hQ38
      obtain ⟨rfl, N38q, e38⟩ := hQ38
      have N38 := Fr.app N36 N38q
      obtain ⟨cq40, kq40, q40a, q40b, q40c⟩ := isOf hZ e38 ECARD_ERROR
      obtain ⟨_, _, ⟨T40, L40, k40, n40⟩, -, X40, ⟨Lc40, hQ40, l40, y40, z40⟩, st40⟩ := X38.virtualBack hx (y := (⟨"com/example/cardstand/cardstand/scenario/CardScenario", "fails", "(Lcom/example/cardstand/cardstand/scenario/CardScenario$Operation;)Z"⟩ : MethodName)) (z := (⟨"com/example/cardstand/cardstand/scenario/CardScenario", "fails", "(Lcom/example/cardstand/cardstand/scenario/CardScenario$Operation;)Z"⟩ : MethodName)) hown (mvT hZ (hw _ (List.mem_of_getElem? (i := 11) rfl))) (mvT hZ (hw _ (List.mem_of_getElem? (i := 12) rfl))) (notFace_of_selects (args := #[]) (mvT hZ (hw _ (List.mem_of_getElem? (i := 14) rfl)))) (mvT hZ (hw _ (List.mem_of_getElem? (i := 14) rfl))) (mvT hZ (hw _ (List.mem_of_getElem? (i := 13) rfl))) (by decide) (backOf (W := 0) (rm3 l Z a0 hw [] wCARD_ERROR wCREATE wCREATE wCARD_ERROR wPARTIAL wBALANCE wCREATE wPAYMENT_ERROR wLOAD wNO_TOPUP wORDINARY wBALANCE_ERROR h0 n0 Z0 W0 FCARD_ERROR_failing) hZ (hw _ (List.mem_of_getElem? (i := 15) rfl)) (hw _ (List.mem_of_getElem? (i := 6) rfl)) (by decide) (by decide)) q40a q40c (g := (mkF m 66 #[.val (.int p0), .val (.int p1), .val (.int (0 : Int32)), .val (.int (0 : Int32)), .val (.ref wCARD_ERROR), .val (.ref wCREATE), .val (.int (1 : Int32))] [(.ref wCREATE), (.ref wCARD_ERROR)])) rfl (by rw [hml]; rfl) (Steps.refl _) (argsL := [(.ref wCREATE)]) (rest := []) (lenOf pd_2 rfl) rfl (by show 2 * 0 + _ ≤ _; exact Nat.le_of_eq rfl) (hb hby at_66) (fun _ _ => ⟨rfl, e38, (by decide : 0 + 0 ≤ _), (by decide : 0 + 0 ≤ _)⟩)
      dsimp only [Pt.U, Pt.locs, Pt.cells, Pt.slots] at X40 l40 y40 z40 st40 hQ40
      subst l40 y40 z40
      unfold Q3 at hQ40
      have k41 : ∀ t, Steps p.tables e below (T38.setTop (mkF m 66 #[.val (.int p0), .val (.int p1), .val (.int (0 : Int32)), .val (.int (0 : Int32)), .val (.ref wCARD_ERROR), .val (.ref wCREATE), .val (.int (1 : Int32))] [(.ref wCREATE), (.ref wCARD_ERROR)])) t → Steps p.tables e below (s₁.setTop (entryFrame m #[(.int p0), (.int p1)] maxLocals)) t := fun t kt => k39 t (by
        show Steps p.tables e below (T36.setTop (mkF m 22 #[.val (.int p0), .val (.int p1), .val (.int (0 : Int32)), .val (.int (0 : Int32)), .val (.ref wCARD_ERROR), .unset, .unset] [(.int (0 : Int32))])) _
        refine st38 _ ?_
        show Steps p.tables e below (T38.setTop (mkF m 25 #[.val (.int p0), .val (.int p1), .val (.int (0 : Int32)), .val (.int (0 : Int32)), .val (.ref wCARD_ERROR), .unset, .unset] [(.ref wCREATE)])) _
        refine XS.astore X38.here hx rfl (hb hby at_25) rfl rfl (l' := #[.val (.int p0), .val (.int p1), .val (.int (0 : Int32)), .val (.int (0 : Int32)), .val (.ref wCARD_ERROR), .val (.ref wCREATE), .unset]) rfl ?_
        show Steps p.tables e below (T38.setTop (mkF m 27 #[.val (.int p0), .val (.int p1), .val (.int (0 : Int32)), .val (.int (0 : Int32)), .val (.ref wCARD_ERROR), .val (.ref wCREATE), .unset] [])) _
        refine XS.iloadN X38.here hx rfl (hb hby at_27) rfl ?_
        show Steps p.tables e below (T38.setTop (mkF m 28 #[.val (.int p0), .val (.int p1), .val (.int (0 : Int32)), .val (.int (0 : Int32)), .val (.ref wCARD_ERROR), .val (.ref wCREATE), .unset] [(.int (0 : Int32))])) _
        refine XS.ifNo X38.here hx rfl (hb hby at_28) rfl ((if0 _ _).trans (teq (rfl : (0 : Int32) = (0 : Int32))).2) ?_
        show Steps p.tables e below (T38.setTop (mkF m 31 #[.val (.int p0), .val (.int p1), .val (.int (0 : Int32)), .val (.int (0 : Int32)), .val (.ref wCARD_ERROR), .val (.ref wCREATE), .unset] [])) _
        refine XS.iloadN X38.here hx rfl (hb hby at_31) rfl ?_
        show Steps p.tables e below (T38.setTop (mkF m 32 #[.val (.int p0), .val (.int p1), .val (.int (0 : Int32)), .val (.int (0 : Int32)), .val (.ref wCARD_ERROR), .val (.ref wCREATE), .unset] [(.int (0 : Int32))])) _
        refine XS.ifYes X38.here hx rfl (pc0 := 32) (pc' := 55) rfl (hb hby at_32) rfl ((if0 _ _).trans (teq (rfl : (0 : Int32) = (0 : Int32))).1) (by decide) (by decide) ?_
        show Steps p.tables e below (T38.setTop (mkF m 55 #[.val (.int p0), .val (.int p1), .val (.int (0 : Int32)), .val (.int (0 : Int32)), .val (.ref wCARD_ERROR), .val (.ref wCREATE), .unset] [])) _
        refine XS.iconst X38.here hx rfl (hb hby at_55) ?_
        show Steps p.tables e below (T38.setTop (mkF m 56 #[.val (.int p0), .val (.int p1), .val (.int (0 : Int32)), .val (.int (0 : Int32)), .val (.ref wCARD_ERROR), .val (.ref wCREATE), .unset] [(.int (1 : Int32))])) _
        refine XS.goto X38.here hx rfl (pc0 := 56) (pc' := 60) rfl (hb hby at_56) (by decide) (by decide) ?_
        show Steps p.tables e below (T38.setTop (mkF m 60 #[.val (.int p0), .val (.int p1), .val (.int (0 : Int32)), .val (.int (0 : Int32)), .val (.ref wCARD_ERROR), .val (.ref wCREATE), .unset] [(.int (1 : Int32))])) _
        refine XS.istore X38.here hx rfl (hb hby at_60) rfl (l' := #[.val (.int p0), .val (.int p1), .val (.int (0 : Int32)), .val (.int (0 : Int32)), .val (.ref wCARD_ERROR), .val (.ref wCREATE), .val (.int (1 : Int32))]) rfl ?_
        show Steps p.tables e below (T38.setTop (mkF m 62 #[.val (.int p0), .val (.int p1), .val (.int (0 : Int32)), .val (.int (0 : Int32)), .val (.ref wCARD_ERROR), .val (.ref wCREATE), .val (.int (1 : Int32))] [])) _
        refine XS.aload X38.here hx rfl (hb hby at_62) rfl rfl ?_
        show Steps p.tables e below (T38.setTop (mkF m 64 #[.val (.int p0), .val (.int p1), .val (.int (0 : Int32)), .val (.int (0 : Int32)), .val (.ref wCARD_ERROR), .val (.ref wCREATE), .val (.int (1 : Int32))] [(.ref wCARD_ERROR)])) _
        refine XS.aload X38.here hx rfl (hb hby at_64) rfl rfl ?_
        exact kt)
      rw [((by rw [f3, if_pos (rfl : wCREATE = wCREATE)]) : (f3 wCARD_ERROR wCREATE wCREATE wCARD_ERROR wPARTIAL wBALANCE wCREATE wPAYMENT_ERROR wLOAD wNO_TOPUP wORDINARY wBALANCE_ERROR) = (1 : Int32))] at hQ40
      obtain ⟨rfl, N40q, e40⟩ := hQ40
      have N40 := Fr.app N38 N40q
      obtain ⟨fs, hr, hrun, hended, hW, hsame⟩ := X40.leave (v := some (.int (1 : Int32))) (fun h => by rw [Bd.returns] at h; cases h)
      refine ⟨_, _, k41 _ ?_, hrun, hended, _, _, rfl, ?_, ⟨_, rfl⟩, hW, hsame.mono (by decide) (by decide)⟩
      · show Steps p.tables e below (T38.setTop (mkF m 66 #[.val (.int p0), .val (.int p1), .val (.int (0 : Int32)), .val (.int (0 : Int32)), .val (.ref wCARD_ERROR), .val (.ref wCREATE), .val (.int (1 : Int32))] [(.ref wCREATE), (.ref wCARD_ERROR)])) _
        refine st40.trans ?_
        show Steps p.tables e below (T40.setTop (mkF m 69 #[.val (.int p0), .val (.int p1), .val (.int (0 : Int32)), .val (.int (0 : Int32)), .val (.ref wCARD_ERROR), .val (.ref wCREATE), .val (.int (1 : Int32))] [(.int (1 : Int32))])) _
        refine XS.iload X40.here hx rfl (hb hby at_69) rfl ?_
        show Steps p.tables e below (T40.setTop (mkF m 71 #[.val (.int p0), .val (.int p1), .val (.int (0 : Int32)), .val (.int (0 : Int32)), .val (.ref wCARD_ERROR), .val (.ref wCREATE), .val (.int (1 : Int32))] [(.int (1 : Int32)), (.int (1 : Int32))])) _
        refine XS.icmpNo X40.here hx rfl (hb hby at_71) rfl (teq (rfl : (1 : Int32) = (1 : Int32))).2 ?_
        show Steps p.tables e below (T40.setTop (mkF m 74 #[.val (.int p0), .val (.int p1), .val (.int (0 : Int32)), .val (.int (0 : Int32)), .val (.ref wCARD_ERROR), .val (.ref wCREATE), .val (.int (1 : Int32))] [])) _
        refine XS.iconst X40.here hx rfl (hb hby at_74) ?_
        show Steps p.tables e below (T40.setTop (mkF m 75 #[.val (.int p0), .val (.int p1), .val (.int (0 : Int32)), .val (.int (0 : Int32)), .val (.ref wCARD_ERROR), .val (.ref wCREATE), .val (.int (1 : Int32))] [(.int (1 : Int32))])) _
        refine XS.goto X40.here hx rfl (pc0 := 75) (pc' := 79) rfl (hb hby at_75) (by decide) (by decide) ?_
        show Steps p.tables e below (T40.setTop (mkF m 79 #[.val (.int p0), .val (.int p1), .val (.int (0 : Int32)), .val (.int (0 : Int32)), .val (.ref wCARD_ERROR), .val (.ref wCREATE), .val (.int (1 : Int32))] [(.int (1 : Int32))])) _
        exact retN X40 hx (t := .boolean) Bd.returns (by simp) (hb hby at_79) hr
      · show Q0 Z p0 p1 wCARD_ERROR wPARTIAL wBALANCE wCREATE wPAYMENT_ERROR wLOAD wNO_TOPUP wORDINARY wBALANCE_ERROR h0 n0 _ T40.heap _
        rw [e40]
        exact ⟨rfl, N40⟩
    · subst hv35
      obtain ⟨_, _, ⟨T42, L42, k42, n42⟩, -, X42, ⟨Lc42, hQ42, l42, y42, z42⟩, st42⟩ := Jvm.LawKit.callS X0 hx (y := (⟨"com/example/cardstand/cardstand/scenario/CardScenarioFailsPinLaw", "scenario", "(I)Lcom/example/cardstand/cardstand/scenario/CardScenario;"⟩ : MethodName)) hown (mvT hZ (hw _ (List.mem_of_getElem? (i := 1) rfl))) (mvT hZ (hw _ (List.mem_of_getElem? (i := 2) rfl))) (mvT hZ (hw _ (List.mem_of_getElem? (i := 3) rfl))) (mvT hZ (hw _ (List.mem_of_getElem? (i := 4) rfl))) (by decide) (backOf (W := 0) (rm1 l Z a0 hw [] (0 : Int32) wCARD_ERROR wPARTIAL wBALANCE wCREATE wPAYMENT_ERROR wLOAD wNO_TOPUP wORDINARY wBALANCE_ERROR h0 n0 Z0 W0 ) hZ (hw _ (List.mem_of_getElem? (i := 4) rfl)) (hw _ (List.mem_of_getElem? (i := 3) rfl)) (by decide) (by decide)) (g := (mkF m 16 #[.val (.int p0), .val (.int p1), .val (.int (0 : Int32)), .val (.int (1 : Int32)), .unset, .unset, .unset] [(.int (0 : Int32))])) rfl (by rw [hml]; rfl) (argsL := [(.int (0 : Int32))]) (rest := []) (lenOf pd_0 rfl) rfl (by show 2 * 0 + _ ≤ _; exact Nat.le_of_eq rfl) (hb hby at_16) (fun _ _ => ⟨rfl, e0, (by decide : 0 + 0 ≤ _), (by decide : 0 + 0 ≤ _)⟩)
      dsimp only [Pt.U, Pt.locs, Pt.cells, Pt.slots] at X42 l42 y42 z42 st42 hQ42
      subst l42 y42 z42
      unfold Q1 at hQ42
      have k43 : ∀ t, Steps p.tables e below (s₁.setTop (mkF m 16 #[.val (.int p0), .val (.int p1), .val (.int (0 : Int32)), .val (.int (1 : Int32)), .unset, .unset, .unset] [(.int (0 : Int32))])) t → Steps p.tables e below (s₁.setTop (entryFrame m #[(.int p0), (.int p1)] maxLocals)) t := fun t kt => k34 t (by
        show Steps p.tables e below (s₁.setTop (mkF m 15 #[.val (.int p0), .val (.int p1), .val (.int (0 : Int32)), .val (.int (1 : Int32)), .unset, .unset, .unset] [])) _
        refine XS.iloadN X0.here hx rfl (hb hby at_15) rfl ?_
        exact kt)
      rw [((by rw [f1, if_pos (rfl : (0 : Int32) = (0 : Int32))]) : (f1 (0 : Int32) wCARD_ERROR wPARTIAL wBALANCE wCREATE wPAYMENT_ERROR wLOAD wNO_TOPUP wORDINARY wBALANCE_ERROR) = wCARD_ERROR)] at hQ42
      obtain ⟨rfl, N42q, e42⟩ := hQ42
      have N42 := Fr.app N0 N42q
      obtain ⟨_, _, ⟨T44, L44, k44, n44⟩, -, X44, ⟨Lc44, hQ44, l44, y44, z44⟩, st44⟩ := Jvm.LawKit.callS X42 hx (y := (⟨"com/example/cardstand/cardstand/scenario/CardScenarioFailsPinLaw", "operation", "(I)Lcom/example/cardstand/cardstand/scenario/CardScenario$Operation;"⟩ : MethodName)) hown (mvT hZ (hw _ (List.mem_of_getElem? (i := 8) rfl))) (mvT hZ (hw _ (List.mem_of_getElem? (i := 9) rfl))) (mvT hZ (hw _ (List.mem_of_getElem? (i := 3) rfl))) (mvT hZ (hw _ (List.mem_of_getElem? (i := 10) rfl))) (by decide) (backOf (W := 0) (rm2 l Z a0 hw [] (1 : Int32) wCARD_ERROR wPARTIAL wBALANCE wCREATE wPAYMENT_ERROR wLOAD wNO_TOPUP wORDINARY wBALANCE_ERROR h0 n0 Z0 W0 ) hZ (hw _ (List.mem_of_getElem? (i := 10) rfl)) (hw _ (List.mem_of_getElem? (i := 3) rfl)) (by decide) (by decide)) (g := (mkF m 22 #[.val (.int p0), .val (.int p1), .val (.int (0 : Int32)), .val (.int (1 : Int32)), .val (.ref wCARD_ERROR), .unset, .unset] [(.int (1 : Int32))])) rfl (by rw [hml]; rfl) (argsL := [(.int (1 : Int32))]) (rest := []) (lenOf pd_1 rfl) rfl (by show 2 * 0 + _ ≤ _; exact Nat.le_of_eq rfl) (hb hby at_22) (fun _ _ => ⟨rfl, e42, (by decide : 0 + 0 ≤ _), (by decide : 0 + 0 ≤ _)⟩)
      dsimp only [Pt.U, Pt.locs, Pt.cells, Pt.slots] at X44 l44 y44 z44 st44 hQ44
      subst l44 y44 z44
      unfold Q2 at hQ44
      have k45 : ∀ t, Steps p.tables e below (T42.setTop (mkF m 22 #[.val (.int p0), .val (.int p1), .val (.int (0 : Int32)), .val (.int (1 : Int32)), .val (.ref wCARD_ERROR), .unset, .unset] [(.int (1 : Int32))])) t → Steps p.tables e below (s₁.setTop (entryFrame m #[(.int p0), (.int p1)] maxLocals)) t := fun t kt => k43 t (by
        show Steps p.tables e below (s₁.setTop (mkF m 16 #[.val (.int p0), .val (.int p1), .val (.int (0 : Int32)), .val (.int (1 : Int32)), .unset, .unset, .unset] [(.int (0 : Int32))])) _
        refine st42 _ ?_
        show Steps p.tables e below (T42.setTop (mkF m 19 #[.val (.int p0), .val (.int p1), .val (.int (0 : Int32)), .val (.int (1 : Int32)), .unset, .unset, .unset] [(.ref wCARD_ERROR)])) _
        refine XS.astore X42.here hx rfl (hb hby at_19) rfl rfl (l' := #[.val (.int p0), .val (.int p1), .val (.int (0 : Int32)), .val (.int (1 : Int32)), .val (.ref wCARD_ERROR), .unset, .unset]) rfl ?_
        show Steps p.tables e below (T42.setTop (mkF m 21 #[.val (.int p0), .val (.int p1), .val (.int (0 : Int32)), .val (.int (1 : Int32)), .val (.ref wCARD_ERROR), .unset, .unset] [])) _
        refine XS.iloadN X42.here hx rfl (hb hby at_21) rfl ?_
        exact kt)
      rw [((by rw [f2, if_neg ((by decide) : ¬ ((1 : Int32) = (0 : Int32))), if_pos (rfl : (1 : Int32) = (1 : Int32))]) : (f2 (1 : Int32) wCARD_ERROR wPARTIAL wBALANCE wCREATE wPAYMENT_ERROR wLOAD wNO_TOPUP wORDINARY wBALANCE_ERROR) = (.ref wBALANCE))] at hQ44
      obtain ⟨rfl, N44q, e44⟩ := hQ44
      have N44 := Fr.app N42 N44q
      obtain ⟨cq46, kq46, q46a, q46b, q46c⟩ := isOf hZ e44 ECARD_ERROR
      obtain ⟨_, _, ⟨T46, L46, k46, n46⟩, -, X46, ⟨Lc46, hQ46, l46, y46, z46⟩, st46⟩ := X44.virtualBack hx (y := (⟨"com/example/cardstand/cardstand/scenario/CardScenario", "fails", "(Lcom/example/cardstand/cardstand/scenario/CardScenario$Operation;)Z"⟩ : MethodName)) (z := (⟨"com/example/cardstand/cardstand/scenario/CardScenario", "fails", "(Lcom/example/cardstand/cardstand/scenario/CardScenario$Operation;)Z"⟩ : MethodName)) hown (mvT hZ (hw _ (List.mem_of_getElem? (i := 11) rfl))) (mvT hZ (hw _ (List.mem_of_getElem? (i := 12) rfl))) (notFace_of_selects (args := #[]) (mvT hZ (hw _ (List.mem_of_getElem? (i := 14) rfl)))) (mvT hZ (hw _ (List.mem_of_getElem? (i := 14) rfl))) (mvT hZ (hw _ (List.mem_of_getElem? (i := 13) rfl))) (by decide) (backOf (W := 0) (rm3 l Z a0 hw [] wCARD_ERROR wBALANCE wCREATE wCARD_ERROR wPARTIAL wBALANCE wCREATE wPAYMENT_ERROR wLOAD wNO_TOPUP wORDINARY wBALANCE_ERROR h0 n0 Z0 W0 FCARD_ERROR_failing) hZ (hw _ (List.mem_of_getElem? (i := 15) rfl)) (hw _ (List.mem_of_getElem? (i := 6) rfl)) (by decide) (by decide)) q46a q46c (g := (mkF m 66 #[.val (.int p0), .val (.int p1), .val (.int (0 : Int32)), .val (.int (1 : Int32)), .val (.ref wCARD_ERROR), .val (.ref wBALANCE), .val (.int (0 : Int32))] [(.ref wBALANCE), (.ref wCARD_ERROR)])) rfl (by rw [hml]; rfl) (Steps.refl _) (argsL := [(.ref wBALANCE)]) (rest := []) (lenOf pd_2 rfl) rfl (by show 2 * 0 + _ ≤ _; exact Nat.le_of_eq rfl) (hb hby at_66) (fun _ _ => ⟨rfl, e44, (by decide : 0 + 0 ≤ _), (by decide : 0 + 0 ≤ _)⟩)
      dsimp only [Pt.U, Pt.locs, Pt.cells, Pt.slots] at X46 l46 y46 z46 st46 hQ46
      subst l46 y46 z46
      unfold Q3 at hQ46
      have k47 : ∀ t, Steps p.tables e below (T44.setTop (mkF m 66 #[.val (.int p0), .val (.int p1), .val (.int (0 : Int32)), .val (.int (1 : Int32)), .val (.ref wCARD_ERROR), .val (.ref wBALANCE), .val (.int (0 : Int32))] [(.ref wBALANCE), (.ref wCARD_ERROR)])) t → Steps p.tables e below (s₁.setTop (entryFrame m #[(.int p0), (.int p1)] maxLocals)) t := fun t kt => k45 t (by
        show Steps p.tables e below (T42.setTop (mkF m 22 #[.val (.int p0), .val (.int p1), .val (.int (0 : Int32)), .val (.int (1 : Int32)), .val (.ref wCARD_ERROR), .unset, .unset] [(.int (1 : Int32))])) _
        refine st44 _ ?_
        show Steps p.tables e below (T44.setTop (mkF m 25 #[.val (.int p0), .val (.int p1), .val (.int (0 : Int32)), .val (.int (1 : Int32)), .val (.ref wCARD_ERROR), .unset, .unset] [(.ref wBALANCE)])) _
        refine XS.astore X44.here hx rfl (hb hby at_25) rfl rfl (l' := #[.val (.int p0), .val (.int p1), .val (.int (0 : Int32)), .val (.int (1 : Int32)), .val (.ref wCARD_ERROR), .val (.ref wBALANCE), .unset]) rfl ?_
        show Steps p.tables e below (T44.setTop (mkF m 27 #[.val (.int p0), .val (.int p1), .val (.int (0 : Int32)), .val (.int (1 : Int32)), .val (.ref wCARD_ERROR), .val (.ref wBALANCE), .unset] [])) _
        refine XS.iloadN X44.here hx rfl (hb hby at_27) rfl ?_
        show Steps p.tables e below (T44.setTop (mkF m 28 #[.val (.int p0), .val (.int p1), .val (.int (0 : Int32)), .val (.int (1 : Int32)), .val (.ref wCARD_ERROR), .val (.ref wBALANCE), .unset] [(.int (0 : Int32))])) _
        refine XS.ifNo X44.here hx rfl (hb hby at_28) rfl ((if0 _ _).trans (teq (rfl : (0 : Int32) = (0 : Int32))).2) ?_
        show Steps p.tables e below (T44.setTop (mkF m 31 #[.val (.int p0), .val (.int p1), .val (.int (0 : Int32)), .val (.int (1 : Int32)), .val (.ref wCARD_ERROR), .val (.ref wBALANCE), .unset] [])) _
        refine XS.iloadN X44.here hx rfl (hb hby at_31) rfl ?_
        show Steps p.tables e below (T44.setTop (mkF m 32 #[.val (.int p0), .val (.int p1), .val (.int (0 : Int32)), .val (.int (1 : Int32)), .val (.ref wCARD_ERROR), .val (.ref wBALANCE), .unset] [(.int (1 : Int32))])) _
        refine XS.ifNo X44.here hx rfl (hb hby at_32) rfl ((if0 _ _).trans (feq ((by decide) : ¬ ((1 : Int32) = (0 : Int32)))).1) ?_
        show Steps p.tables e below (T44.setTop (mkF m 35 #[.val (.int p0), .val (.int p1), .val (.int (0 : Int32)), .val (.int (1 : Int32)), .val (.ref wCARD_ERROR), .val (.ref wBALANCE), .unset] [])) _
        refine XS.iloadN X44.here hx rfl (hb hby at_35) rfl ?_
        show Steps p.tables e below (T44.setTop (mkF m 36 #[.val (.int p0), .val (.int p1), .val (.int (0 : Int32)), .val (.int (1 : Int32)), .val (.ref wCARD_ERROR), .val (.ref wBALANCE), .unset] [(.int (0 : Int32))])) _
        refine XS.iconst X44.here hx rfl (hb hby at_36) ?_
        show Steps p.tables e below (T44.setTop (mkF m 37 #[.val (.int p0), .val (.int p1), .val (.int (0 : Int32)), .val (.int (1 : Int32)), .val (.ref wCARD_ERROR), .val (.ref wBALANCE), .unset] [(.int (3 : Int32)), (.int (0 : Int32))])) _
        refine XS.icmpYes X44.here hx rfl (pc0 := 37) (pc' := 45) rfl (hb hby at_37) rfl (feq ((by decide) : ¬ ((0 : Int32) = (3 : Int32)))).2 (by decide) (by decide) ?_
        show Steps p.tables e below (T44.setTop (mkF m 45 #[.val (.int p0), .val (.int p1), .val (.int (0 : Int32)), .val (.int (1 : Int32)), .val (.ref wCARD_ERROR), .val (.ref wBALANCE), .unset] [])) _
        refine XS.iloadN X44.here hx rfl (hb hby at_45) rfl ?_
        show Steps p.tables e below (T44.setTop (mkF m 46 #[.val (.int p0), .val (.int p1), .val (.int (0 : Int32)), .val (.int (1 : Int32)), .val (.ref wCARD_ERROR), .val (.ref wBALANCE), .unset] [(.int (0 : Int32))])) _
        refine XS.iconst X44.here hx rfl (hb hby at_46) ?_
        show Steps p.tables e below (T44.setTop (mkF m 47 #[.val (.int p0), .val (.int p1), .val (.int (0 : Int32)), .val (.int (1 : Int32)), .val (.ref wCARD_ERROR), .val (.ref wBALANCE), .unset] [(.int (4 : Int32)), (.int (0 : Int32))])) _
        refine XS.icmpYes X44.here hx rfl (pc0 := 47) (pc' := 59) rfl (hb hby at_47) rfl (feq ((by decide) : ¬ ((0 : Int32) = (4 : Int32)))).2 (by decide) (by decide) ?_
        show Steps p.tables e below (T44.setTop (mkF m 59 #[.val (.int p0), .val (.int p1), .val (.int (0 : Int32)), .val (.int (1 : Int32)), .val (.ref wCARD_ERROR), .val (.ref wBALANCE), .unset] [])) _
        refine XS.iconst X44.here hx rfl (hb hby at_59) ?_
        show Steps p.tables e below (T44.setTop (mkF m 60 #[.val (.int p0), .val (.int p1), .val (.int (0 : Int32)), .val (.int (1 : Int32)), .val (.ref wCARD_ERROR), .val (.ref wBALANCE), .unset] [(.int (0 : Int32))])) _
        refine XS.istore X44.here hx rfl (hb hby at_60) rfl (l' := #[.val (.int p0), .val (.int p1), .val (.int (0 : Int32)), .val (.int (1 : Int32)), .val (.ref wCARD_ERROR), .val (.ref wBALANCE), .val (.int (0 : Int32))]) rfl ?_
        show Steps p.tables e below (T44.setTop (mkF m 62 #[.val (.int p0), .val (.int p1), .val (.int (0 : Int32)), .val (.int (1 : Int32)), .val (.ref wCARD_ERROR), .val (.ref wBALANCE), .val (.int (0 : Int32))] [])) _
        refine XS.aload X44.here hx rfl (hb hby at_62) rfl rfl ?_
        show Steps p.tables e below (T44.setTop (mkF m 64 #[.val (.int p0), .val (.int p1), .val (.int (0 : Int32)), .val (.int (1 : Int32)), .val (.ref wCARD_ERROR), .val (.ref wBALANCE), .val (.int (0 : Int32))] [(.ref wCARD_ERROR)])) _
        refine XS.aload X44.here hx rfl (hb hby at_64) rfl rfl ?_
        exact kt)
      rw [((by rw [f3, if_neg ((Fld.ne FBALANCE_ordinal FCREATE_ordinal (by decide)) : ¬ (wBALANCE = wCREATE))]) : (f3 wCARD_ERROR wBALANCE wCREATE wCARD_ERROR wPARTIAL wBALANCE wCREATE wPAYMENT_ERROR wLOAD wNO_TOPUP wORDINARY wBALANCE_ERROR) = (0 : Int32))] at hQ46
      obtain ⟨rfl, N46q, e46⟩ := hQ46
      have N46 := Fr.app N44 N46q
      obtain ⟨fs, hr, hrun, hended, hW, hsame⟩ := X46.leave (v := some (.int (1 : Int32))) (fun h => by rw [Bd.returns] at h; cases h)
      refine ⟨_, _, k47 _ ?_, hrun, hended, _, _, rfl, ?_, ⟨_, rfl⟩, hW, hsame.mono (by decide) (by decide)⟩
      · show Steps p.tables e below (T44.setTop (mkF m 66 #[.val (.int p0), .val (.int p1), .val (.int (0 : Int32)), .val (.int (1 : Int32)), .val (.ref wCARD_ERROR), .val (.ref wBALANCE), .val (.int (0 : Int32))] [(.ref wBALANCE), (.ref wCARD_ERROR)])) _
        refine st46.trans ?_
        show Steps p.tables e below (T46.setTop (mkF m 69 #[.val (.int p0), .val (.int p1), .val (.int (0 : Int32)), .val (.int (1 : Int32)), .val (.ref wCARD_ERROR), .val (.ref wBALANCE), .val (.int (0 : Int32))] [(.int (0 : Int32))])) _
        refine XS.iload X46.here hx rfl (hb hby at_69) rfl ?_
        show Steps p.tables e below (T46.setTop (mkF m 71 #[.val (.int p0), .val (.int p1), .val (.int (0 : Int32)), .val (.int (1 : Int32)), .val (.ref wCARD_ERROR), .val (.ref wBALANCE), .val (.int (0 : Int32))] [(.int (0 : Int32)), (.int (0 : Int32))])) _
        refine XS.icmpNo X46.here hx rfl (hb hby at_71) rfl (teq (rfl : (0 : Int32) = (0 : Int32))).2 ?_
        show Steps p.tables e below (T46.setTop (mkF m 74 #[.val (.int p0), .val (.int p1), .val (.int (0 : Int32)), .val (.int (1 : Int32)), .val (.ref wCARD_ERROR), .val (.ref wBALANCE), .val (.int (0 : Int32))] [])) _
        refine XS.iconst X46.here hx rfl (hb hby at_74) ?_
        show Steps p.tables e below (T46.setTop (mkF m 75 #[.val (.int p0), .val (.int p1), .val (.int (0 : Int32)), .val (.int (1 : Int32)), .val (.ref wCARD_ERROR), .val (.ref wBALANCE), .val (.int (0 : Int32))] [(.int (1 : Int32))])) _
        refine XS.goto X46.here hx rfl (pc0 := 75) (pc' := 79) rfl (hb hby at_75) (by decide) (by decide) ?_
        show Steps p.tables e below (T46.setTop (mkF m 79 #[.val (.int p0), .val (.int p1), .val (.int (0 : Int32)), .val (.int (1 : Int32)), .val (.ref wCARD_ERROR), .val (.ref wBALANCE), .val (.int (0 : Int32))] [(.int (1 : Int32))])) _
        exact retN X46 hx (t := .boolean) Bd.returns (by simp) (hb hby at_79) hr
      · show Q0 Z p0 p1 wCARD_ERROR wPARTIAL wBALANCE wCREATE wPAYMENT_ERROR wLOAD wNO_TOPUP wORDINARY wBALANCE_ERROR h0 n0 _ T46.heap _
        rw [e46]
        exact ⟨rfl, N46⟩
    · subst hv35
      obtain ⟨_, _, ⟨T48, L48, k48, n48⟩, -, X48, ⟨Lc48, hQ48, l48, y48, z48⟩, st48⟩ := Jvm.LawKit.callS X0 hx (y := (⟨"com/example/cardstand/cardstand/scenario/CardScenarioFailsPinLaw", "scenario", "(I)Lcom/example/cardstand/cardstand/scenario/CardScenario;"⟩ : MethodName)) hown (mvT hZ (hw _ (List.mem_of_getElem? (i := 1) rfl))) (mvT hZ (hw _ (List.mem_of_getElem? (i := 2) rfl))) (mvT hZ (hw _ (List.mem_of_getElem? (i := 3) rfl))) (mvT hZ (hw _ (List.mem_of_getElem? (i := 4) rfl))) (by decide) (backOf (W := 0) (rm1 l Z a0 hw [] (0 : Int32) wCARD_ERROR wPARTIAL wBALANCE wCREATE wPAYMENT_ERROR wLOAD wNO_TOPUP wORDINARY wBALANCE_ERROR h0 n0 Z0 W0 ) hZ (hw _ (List.mem_of_getElem? (i := 4) rfl)) (hw _ (List.mem_of_getElem? (i := 3) rfl)) (by decide) (by decide)) (g := (mkF m 16 #[.val (.int p0), .val (.int p1), .val (.int (0 : Int32)), .val (.int (2 : Int32)), .unset, .unset, .unset] [(.int (0 : Int32))])) rfl (by rw [hml]; rfl) (argsL := [(.int (0 : Int32))]) (rest := []) (lenOf pd_0 rfl) rfl (by show 2 * 0 + _ ≤ _; exact Nat.le_of_eq rfl) (hb hby at_16) (fun _ _ => ⟨rfl, e0, (by decide : 0 + 0 ≤ _), (by decide : 0 + 0 ≤ _)⟩)
      dsimp only [Pt.U, Pt.locs, Pt.cells, Pt.slots] at X48 l48 y48 z48 st48 hQ48
      subst l48 y48 z48
      unfold Q1 at hQ48
      have k49 : ∀ t, Steps p.tables e below (s₁.setTop (mkF m 16 #[.val (.int p0), .val (.int p1), .val (.int (0 : Int32)), .val (.int (2 : Int32)), .unset, .unset, .unset] [(.int (0 : Int32))])) t → Steps p.tables e below (s₁.setTop (entryFrame m #[(.int p0), (.int p1)] maxLocals)) t := fun t kt => k34 t (by
        show Steps p.tables e below (s₁.setTop (mkF m 15 #[.val (.int p0), .val (.int p1), .val (.int (0 : Int32)), .val (.int (2 : Int32)), .unset, .unset, .unset] [])) _
        refine XS.iloadN X0.here hx rfl (hb hby at_15) rfl ?_
        exact kt)
      rw [((by rw [f1, if_pos (rfl : (0 : Int32) = (0 : Int32))]) : (f1 (0 : Int32) wCARD_ERROR wPARTIAL wBALANCE wCREATE wPAYMENT_ERROR wLOAD wNO_TOPUP wORDINARY wBALANCE_ERROR) = wCARD_ERROR)] at hQ48
      obtain ⟨rfl, N48q, e48⟩ := hQ48
      have N48 := Fr.app N0 N48q
      obtain ⟨_, _, ⟨T50, L50, k50, n50⟩, -, X50, ⟨Lc50, hQ50, l50, y50, z50⟩, st50⟩ := Jvm.LawKit.callS X48 hx (y := (⟨"com/example/cardstand/cardstand/scenario/CardScenarioFailsPinLaw", "operation", "(I)Lcom/example/cardstand/cardstand/scenario/CardScenario$Operation;"⟩ : MethodName)) hown (mvT hZ (hw _ (List.mem_of_getElem? (i := 8) rfl))) (mvT hZ (hw _ (List.mem_of_getElem? (i := 9) rfl))) (mvT hZ (hw _ (List.mem_of_getElem? (i := 3) rfl))) (mvT hZ (hw _ (List.mem_of_getElem? (i := 10) rfl))) (by decide) (backOf (W := 0) (rm2 l Z a0 hw [] (2 : Int32) wCARD_ERROR wPARTIAL wBALANCE wCREATE wPAYMENT_ERROR wLOAD wNO_TOPUP wORDINARY wBALANCE_ERROR h0 n0 Z0 W0 ) hZ (hw _ (List.mem_of_getElem? (i := 10) rfl)) (hw _ (List.mem_of_getElem? (i := 3) rfl)) (by decide) (by decide)) (g := (mkF m 22 #[.val (.int p0), .val (.int p1), .val (.int (0 : Int32)), .val (.int (2 : Int32)), .val (.ref wCARD_ERROR), .unset, .unset] [(.int (2 : Int32))])) rfl (by rw [hml]; rfl) (argsL := [(.int (2 : Int32))]) (rest := []) (lenOf pd_1 rfl) rfl (by show 2 * 0 + _ ≤ _; exact Nat.le_of_eq rfl) (hb hby at_22) (fun _ _ => ⟨rfl, e48, (by decide : 0 + 0 ≤ _), (by decide : 0 + 0 ≤ _)⟩)
      dsimp only [Pt.U, Pt.locs, Pt.cells, Pt.slots] at X50 l50 y50 z50 st50 hQ50
      subst l50 y50 z50
      unfold Q2 at hQ50
      have k51 : ∀ t, Steps p.tables e below (T48.setTop (mkF m 22 #[.val (.int p0), .val (.int p1), .val (.int (0 : Int32)), .val (.int (2 : Int32)), .val (.ref wCARD_ERROR), .unset, .unset] [(.int (2 : Int32))])) t → Steps p.tables e below (s₁.setTop (entryFrame m #[(.int p0), (.int p1)] maxLocals)) t := fun t kt => k49 t (by
        show Steps p.tables e below (s₁.setTop (mkF m 16 #[.val (.int p0), .val (.int p1), .val (.int (0 : Int32)), .val (.int (2 : Int32)), .unset, .unset, .unset] [(.int (0 : Int32))])) _
        refine st48 _ ?_
        show Steps p.tables e below (T48.setTop (mkF m 19 #[.val (.int p0), .val (.int p1), .val (.int (0 : Int32)), .val (.int (2 : Int32)), .unset, .unset, .unset] [(.ref wCARD_ERROR)])) _
        refine XS.astore X48.here hx rfl (hb hby at_19) rfl rfl (l' := #[.val (.int p0), .val (.int p1), .val (.int (0 : Int32)), .val (.int (2 : Int32)), .val (.ref wCARD_ERROR), .unset, .unset]) rfl ?_
        show Steps p.tables e below (T48.setTop (mkF m 21 #[.val (.int p0), .val (.int p1), .val (.int (0 : Int32)), .val (.int (2 : Int32)), .val (.ref wCARD_ERROR), .unset, .unset] [])) _
        refine XS.iloadN X48.here hx rfl (hb hby at_21) rfl ?_
        exact kt)
      rw [((by rw [f2, if_neg ((by decide) : ¬ ((2 : Int32) = (0 : Int32))), if_neg ((by decide) : ¬ ((2 : Int32) = (1 : Int32))), if_pos (rfl : (2 : Int32) = (2 : Int32))]) : (f2 (2 : Int32) wCARD_ERROR wPARTIAL wBALANCE wCREATE wPAYMENT_ERROR wLOAD wNO_TOPUP wORDINARY wBALANCE_ERROR) = (.ref wLOAD))] at hQ50
      obtain ⟨rfl, N50q, e50⟩ := hQ50
      have N50 := Fr.app N48 N50q
      obtain ⟨cq52, kq52, q52a, q52b, q52c⟩ := isOf hZ e50 ECARD_ERROR
      obtain ⟨_, _, ⟨T52, L52, k52, n52⟩, -, X52, ⟨Lc52, hQ52, l52, y52, z52⟩, st52⟩ := X50.virtualBack hx (y := (⟨"com/example/cardstand/cardstand/scenario/CardScenario", "fails", "(Lcom/example/cardstand/cardstand/scenario/CardScenario$Operation;)Z"⟩ : MethodName)) (z := (⟨"com/example/cardstand/cardstand/scenario/CardScenario", "fails", "(Lcom/example/cardstand/cardstand/scenario/CardScenario$Operation;)Z"⟩ : MethodName)) hown (mvT hZ (hw _ (List.mem_of_getElem? (i := 11) rfl))) (mvT hZ (hw _ (List.mem_of_getElem? (i := 12) rfl))) (notFace_of_selects (args := #[]) (mvT hZ (hw _ (List.mem_of_getElem? (i := 14) rfl)))) (mvT hZ (hw _ (List.mem_of_getElem? (i := 14) rfl))) (mvT hZ (hw _ (List.mem_of_getElem? (i := 13) rfl))) (by decide) (backOf (W := 0) (rm3 l Z a0 hw [] wCARD_ERROR wLOAD wCREATE wCARD_ERROR wPARTIAL wBALANCE wCREATE wPAYMENT_ERROR wLOAD wNO_TOPUP wORDINARY wBALANCE_ERROR h0 n0 Z0 W0 FCARD_ERROR_failing) hZ (hw _ (List.mem_of_getElem? (i := 15) rfl)) (hw _ (List.mem_of_getElem? (i := 6) rfl)) (by decide) (by decide)) q52a q52c (g := (mkF m 66 #[.val (.int p0), .val (.int p1), .val (.int (0 : Int32)), .val (.int (2 : Int32)), .val (.ref wCARD_ERROR), .val (.ref wLOAD), .val (.int (0 : Int32))] [(.ref wLOAD), (.ref wCARD_ERROR)])) rfl (by rw [hml]; rfl) (Steps.refl _) (argsL := [(.ref wLOAD)]) (rest := []) (lenOf pd_2 rfl) rfl (by show 2 * 0 + _ ≤ _; exact Nat.le_of_eq rfl) (hb hby at_66) (fun _ _ => ⟨rfl, e50, (by decide : 0 + 0 ≤ _), (by decide : 0 + 0 ≤ _)⟩)
      dsimp only [Pt.U, Pt.locs, Pt.cells, Pt.slots] at X52 l52 y52 z52 st52 hQ52
      subst l52 y52 z52
      unfold Q3 at hQ52
      have k53 : ∀ t, Steps p.tables e below (T50.setTop (mkF m 66 #[.val (.int p0), .val (.int p1), .val (.int (0 : Int32)), .val (.int (2 : Int32)), .val (.ref wCARD_ERROR), .val (.ref wLOAD), .val (.int (0 : Int32))] [(.ref wLOAD), (.ref wCARD_ERROR)])) t → Steps p.tables e below (s₁.setTop (entryFrame m #[(.int p0), (.int p1)] maxLocals)) t := fun t kt => k51 t (by
        show Steps p.tables e below (T48.setTop (mkF m 22 #[.val (.int p0), .val (.int p1), .val (.int (0 : Int32)), .val (.int (2 : Int32)), .val (.ref wCARD_ERROR), .unset, .unset] [(.int (2 : Int32))])) _
        refine st50 _ ?_
        show Steps p.tables e below (T50.setTop (mkF m 25 #[.val (.int p0), .val (.int p1), .val (.int (0 : Int32)), .val (.int (2 : Int32)), .val (.ref wCARD_ERROR), .unset, .unset] [(.ref wLOAD)])) _
        refine XS.astore X50.here hx rfl (hb hby at_25) rfl rfl (l' := #[.val (.int p0), .val (.int p1), .val (.int (0 : Int32)), .val (.int (2 : Int32)), .val (.ref wCARD_ERROR), .val (.ref wLOAD), .unset]) rfl ?_
        show Steps p.tables e below (T50.setTop (mkF m 27 #[.val (.int p0), .val (.int p1), .val (.int (0 : Int32)), .val (.int (2 : Int32)), .val (.ref wCARD_ERROR), .val (.ref wLOAD), .unset] [])) _
        refine XS.iloadN X50.here hx rfl (hb hby at_27) rfl ?_
        show Steps p.tables e below (T50.setTop (mkF m 28 #[.val (.int p0), .val (.int p1), .val (.int (0 : Int32)), .val (.int (2 : Int32)), .val (.ref wCARD_ERROR), .val (.ref wLOAD), .unset] [(.int (0 : Int32))])) _
        refine XS.ifNo X50.here hx rfl (hb hby at_28) rfl ((if0 _ _).trans (teq (rfl : (0 : Int32) = (0 : Int32))).2) ?_
        show Steps p.tables e below (T50.setTop (mkF m 31 #[.val (.int p0), .val (.int p1), .val (.int (0 : Int32)), .val (.int (2 : Int32)), .val (.ref wCARD_ERROR), .val (.ref wLOAD), .unset] [])) _
        refine XS.iloadN X50.here hx rfl (hb hby at_31) rfl ?_
        show Steps p.tables e below (T50.setTop (mkF m 32 #[.val (.int p0), .val (.int p1), .val (.int (0 : Int32)), .val (.int (2 : Int32)), .val (.ref wCARD_ERROR), .val (.ref wLOAD), .unset] [(.int (2 : Int32))])) _
        refine XS.ifNo X50.here hx rfl (hb hby at_32) rfl ((if0 _ _).trans (feq ((by decide) : ¬ ((2 : Int32) = (0 : Int32)))).1) ?_
        show Steps p.tables e below (T50.setTop (mkF m 35 #[.val (.int p0), .val (.int p1), .val (.int (0 : Int32)), .val (.int (2 : Int32)), .val (.ref wCARD_ERROR), .val (.ref wLOAD), .unset] [])) _
        refine XS.iloadN X50.here hx rfl (hb hby at_35) rfl ?_
        show Steps p.tables e below (T50.setTop (mkF m 36 #[.val (.int p0), .val (.int p1), .val (.int (0 : Int32)), .val (.int (2 : Int32)), .val (.ref wCARD_ERROR), .val (.ref wLOAD), .unset] [(.int (0 : Int32))])) _
        refine XS.iconst X50.here hx rfl (hb hby at_36) ?_
        show Steps p.tables e below (T50.setTop (mkF m 37 #[.val (.int p0), .val (.int p1), .val (.int (0 : Int32)), .val (.int (2 : Int32)), .val (.ref wCARD_ERROR), .val (.ref wLOAD), .unset] [(.int (3 : Int32)), (.int (0 : Int32))])) _
        refine XS.icmpYes X50.here hx rfl (pc0 := 37) (pc' := 45) rfl (hb hby at_37) rfl (feq ((by decide) : ¬ ((0 : Int32) = (3 : Int32)))).2 (by decide) (by decide) ?_
        show Steps p.tables e below (T50.setTop (mkF m 45 #[.val (.int p0), .val (.int p1), .val (.int (0 : Int32)), .val (.int (2 : Int32)), .val (.ref wCARD_ERROR), .val (.ref wLOAD), .unset] [])) _
        refine XS.iloadN X50.here hx rfl (hb hby at_45) rfl ?_
        show Steps p.tables e below (T50.setTop (mkF m 46 #[.val (.int p0), .val (.int p1), .val (.int (0 : Int32)), .val (.int (2 : Int32)), .val (.ref wCARD_ERROR), .val (.ref wLOAD), .unset] [(.int (0 : Int32))])) _
        refine XS.iconst X50.here hx rfl (hb hby at_46) ?_
        show Steps p.tables e below (T50.setTop (mkF m 47 #[.val (.int p0), .val (.int p1), .val (.int (0 : Int32)), .val (.int (2 : Int32)), .val (.ref wCARD_ERROR), .val (.ref wLOAD), .unset] [(.int (4 : Int32)), (.int (0 : Int32))])) _
        refine XS.icmpYes X50.here hx rfl (pc0 := 47) (pc' := 59) rfl (hb hby at_47) rfl (feq ((by decide) : ¬ ((0 : Int32) = (4 : Int32)))).2 (by decide) (by decide) ?_
        show Steps p.tables e below (T50.setTop (mkF m 59 #[.val (.int p0), .val (.int p1), .val (.int (0 : Int32)), .val (.int (2 : Int32)), .val (.ref wCARD_ERROR), .val (.ref wLOAD), .unset] [])) _
        refine XS.iconst X50.here hx rfl (hb hby at_59) ?_
        show Steps p.tables e below (T50.setTop (mkF m 60 #[.val (.int p0), .val (.int p1), .val (.int (0 : Int32)), .val (.int (2 : Int32)), .val (.ref wCARD_ERROR), .val (.ref wLOAD), .unset] [(.int (0 : Int32))])) _
        refine XS.istore X50.here hx rfl (hb hby at_60) rfl (l' := #[.val (.int p0), .val (.int p1), .val (.int (0 : Int32)), .val (.int (2 : Int32)), .val (.ref wCARD_ERROR), .val (.ref wLOAD), .val (.int (0 : Int32))]) rfl ?_
        show Steps p.tables e below (T50.setTop (mkF m 62 #[.val (.int p0), .val (.int p1), .val (.int (0 : Int32)), .val (.int (2 : Int32)), .val (.ref wCARD_ERROR), .val (.ref wLOAD), .val (.int (0 : Int32))] [])) _
        refine XS.aload X50.here hx rfl (hb hby at_62) rfl rfl ?_
        show Steps p.tables e below (T50.setTop (mkF m 64 #[.val (.int p0), .val (.int p1), .val (.int (0 : Int32)), .val (.int (2 : Int32)), .val (.ref wCARD_ERROR), .val (.ref wLOAD), .val (.int (0 : Int32))] [(.ref wCARD_ERROR)])) _
        refine XS.aload X50.here hx rfl (hb hby at_64) rfl rfl ?_
        exact kt)
      rw [((by rw [f3, if_neg ((Fld.ne FLOAD_ordinal FCREATE_ordinal (by decide)) : ¬ (wLOAD = wCREATE))]) : (f3 wCARD_ERROR wLOAD wCREATE wCARD_ERROR wPARTIAL wBALANCE wCREATE wPAYMENT_ERROR wLOAD wNO_TOPUP wORDINARY wBALANCE_ERROR) = (0 : Int32))] at hQ52
      obtain ⟨rfl, N52q, e52⟩ := hQ52
      have N52 := Fr.app N50 N52q
      obtain ⟨fs, hr, hrun, hended, hW, hsame⟩ := X52.leave (v := some (.int (1 : Int32))) (fun h => by rw [Bd.returns] at h; cases h)
      refine ⟨_, _, k53 _ ?_, hrun, hended, _, _, rfl, ?_, ⟨_, rfl⟩, hW, hsame.mono (by decide) (by decide)⟩
      · show Steps p.tables e below (T50.setTop (mkF m 66 #[.val (.int p0), .val (.int p1), .val (.int (0 : Int32)), .val (.int (2 : Int32)), .val (.ref wCARD_ERROR), .val (.ref wLOAD), .val (.int (0 : Int32))] [(.ref wLOAD), (.ref wCARD_ERROR)])) _
        refine st52.trans ?_
        show Steps p.tables e below (T52.setTop (mkF m 69 #[.val (.int p0), .val (.int p1), .val (.int (0 : Int32)), .val (.int (2 : Int32)), .val (.ref wCARD_ERROR), .val (.ref wLOAD), .val (.int (0 : Int32))] [(.int (0 : Int32))])) _
        refine XS.iload X52.here hx rfl (hb hby at_69) rfl ?_
        show Steps p.tables e below (T52.setTop (mkF m 71 #[.val (.int p0), .val (.int p1), .val (.int (0 : Int32)), .val (.int (2 : Int32)), .val (.ref wCARD_ERROR), .val (.ref wLOAD), .val (.int (0 : Int32))] [(.int (0 : Int32)), (.int (0 : Int32))])) _
        refine XS.icmpNo X52.here hx rfl (hb hby at_71) rfl (teq (rfl : (0 : Int32) = (0 : Int32))).2 ?_
        show Steps p.tables e below (T52.setTop (mkF m 74 #[.val (.int p0), .val (.int p1), .val (.int (0 : Int32)), .val (.int (2 : Int32)), .val (.ref wCARD_ERROR), .val (.ref wLOAD), .val (.int (0 : Int32))] [])) _
        refine XS.iconst X52.here hx rfl (hb hby at_74) ?_
        show Steps p.tables e below (T52.setTop (mkF m 75 #[.val (.int p0), .val (.int p1), .val (.int (0 : Int32)), .val (.int (2 : Int32)), .val (.ref wCARD_ERROR), .val (.ref wLOAD), .val (.int (0 : Int32))] [(.int (1 : Int32))])) _
        refine XS.goto X52.here hx rfl (pc0 := 75) (pc' := 79) rfl (hb hby at_75) (by decide) (by decide) ?_
        show Steps p.tables e below (T52.setTop (mkF m 79 #[.val (.int p0), .val (.int p1), .val (.int (0 : Int32)), .val (.int (2 : Int32)), .val (.ref wCARD_ERROR), .val (.ref wLOAD), .val (.int (0 : Int32))] [(.int (1 : Int32))])) _
        exact retN X52 hx (t := .boolean) Bd.returns (by simp) (hb hby at_79) hr
      · show Q0 Z p0 p1 wCARD_ERROR wPARTIAL wBALANCE wCREATE wPAYMENT_ERROR wLOAD wNO_TOPUP wORDINARY wBALANCE_ERROR h0 n0 _ T52.heap _
        rw [e52]
        exact ⟨rfl, N52⟩
    · subst hv35
      obtain ⟨_, _, ⟨T54, L54, k54, n54⟩, -, X54, ⟨Lc54, hQ54, l54, y54, z54⟩, st54⟩ := Jvm.LawKit.callS X0 hx (y := (⟨"com/example/cardstand/cardstand/scenario/CardScenarioFailsPinLaw", "scenario", "(I)Lcom/example/cardstand/cardstand/scenario/CardScenario;"⟩ : MethodName)) hown (mvT hZ (hw _ (List.mem_of_getElem? (i := 1) rfl))) (mvT hZ (hw _ (List.mem_of_getElem? (i := 2) rfl))) (mvT hZ (hw _ (List.mem_of_getElem? (i := 3) rfl))) (mvT hZ (hw _ (List.mem_of_getElem? (i := 4) rfl))) (by decide) (backOf (W := 0) (rm1 l Z a0 hw [] (0 : Int32) wCARD_ERROR wPARTIAL wBALANCE wCREATE wPAYMENT_ERROR wLOAD wNO_TOPUP wORDINARY wBALANCE_ERROR h0 n0 Z0 W0 ) hZ (hw _ (List.mem_of_getElem? (i := 4) rfl)) (hw _ (List.mem_of_getElem? (i := 3) rfl)) (by decide) (by decide)) (g := (mkF m 16 #[.val (.int p0), .val (.int p1), .val (.int (0 : Int32)), .val (.int (3 : Int32)), .unset, .unset, .unset] [(.int (0 : Int32))])) rfl (by rw [hml]; rfl) (argsL := [(.int (0 : Int32))]) (rest := []) (lenOf pd_0 rfl) rfl (by show 2 * 0 + _ ≤ _; exact Nat.le_of_eq rfl) (hb hby at_16) (fun _ _ => ⟨rfl, e0, (by decide : 0 + 0 ≤ _), (by decide : 0 + 0 ≤ _)⟩)
      dsimp only [Pt.U, Pt.locs, Pt.cells, Pt.slots] at X54 l54 y54 z54 st54 hQ54
      subst l54 y54 z54
      unfold Q1 at hQ54
      have k55 : ∀ t, Steps p.tables e below (s₁.setTop (mkF m 16 #[.val (.int p0), .val (.int p1), .val (.int (0 : Int32)), .val (.int (3 : Int32)), .unset, .unset, .unset] [(.int (0 : Int32))])) t → Steps p.tables e below (s₁.setTop (entryFrame m #[(.int p0), (.int p1)] maxLocals)) t := fun t kt => k34 t (by
        show Steps p.tables e below (s₁.setTop (mkF m 15 #[.val (.int p0), .val (.int p1), .val (.int (0 : Int32)), .val (.int (3 : Int32)), .unset, .unset, .unset] [])) _
        refine XS.iloadN X0.here hx rfl (hb hby at_15) rfl ?_
        exact kt)
      rw [((by rw [f1, if_pos (rfl : (0 : Int32) = (0 : Int32))]) : (f1 (0 : Int32) wCARD_ERROR wPARTIAL wBALANCE wCREATE wPAYMENT_ERROR wLOAD wNO_TOPUP wORDINARY wBALANCE_ERROR) = wCARD_ERROR)] at hQ54
      obtain ⟨rfl, N54q, e54⟩ := hQ54
      have N54 := Fr.app N0 N54q
      obtain ⟨_, _, ⟨T56, L56, k56, n56⟩, -, X56, ⟨Lc56, hQ56, l56, y56, z56⟩, st56⟩ := Jvm.LawKit.callS X54 hx (y := (⟨"com/example/cardstand/cardstand/scenario/CardScenarioFailsPinLaw", "operation", "(I)Lcom/example/cardstand/cardstand/scenario/CardScenario$Operation;"⟩ : MethodName)) hown (mvT hZ (hw _ (List.mem_of_getElem? (i := 8) rfl))) (mvT hZ (hw _ (List.mem_of_getElem? (i := 9) rfl))) (mvT hZ (hw _ (List.mem_of_getElem? (i := 3) rfl))) (mvT hZ (hw _ (List.mem_of_getElem? (i := 10) rfl))) (by decide) (backOf (W := 0) (rm2 l Z a0 hw [] (3 : Int32) wCARD_ERROR wPARTIAL wBALANCE wCREATE wPAYMENT_ERROR wLOAD wNO_TOPUP wORDINARY wBALANCE_ERROR h0 n0 Z0 W0 ) hZ (hw _ (List.mem_of_getElem? (i := 10) rfl)) (hw _ (List.mem_of_getElem? (i := 3) rfl)) (by decide) (by decide)) (g := (mkF m 22 #[.val (.int p0), .val (.int p1), .val (.int (0 : Int32)), .val (.int (3 : Int32)), .val (.ref wCARD_ERROR), .unset, .unset] [(.int (3 : Int32))])) rfl (by rw [hml]; rfl) (argsL := [(.int (3 : Int32))]) (rest := []) (lenOf pd_1 rfl) rfl (by show 2 * 0 + _ ≤ _; exact Nat.le_of_eq rfl) (hb hby at_22) (fun _ _ => ⟨rfl, e54, (by decide : 0 + 0 ≤ _), (by decide : 0 + 0 ≤ _)⟩)
      dsimp only [Pt.U, Pt.locs, Pt.cells, Pt.slots] at X56 l56 y56 z56 st56 hQ56
      subst l56 y56 z56
      unfold Q2 at hQ56
      have k57 : ∀ t, Steps p.tables e below (T54.setTop (mkF m 22 #[.val (.int p0), .val (.int p1), .val (.int (0 : Int32)), .val (.int (3 : Int32)), .val (.ref wCARD_ERROR), .unset, .unset] [(.int (3 : Int32))])) t → Steps p.tables e below (s₁.setTop (entryFrame m #[(.int p0), (.int p1)] maxLocals)) t := fun t kt => k55 t (by
        show Steps p.tables e below (s₁.setTop (mkF m 16 #[.val (.int p0), .val (.int p1), .val (.int (0 : Int32)), .val (.int (3 : Int32)), .unset, .unset, .unset] [(.int (0 : Int32))])) _
        refine st54 _ ?_
        show Steps p.tables e below (T54.setTop (mkF m 19 #[.val (.int p0), .val (.int p1), .val (.int (0 : Int32)), .val (.int (3 : Int32)), .unset, .unset, .unset] [(.ref wCARD_ERROR)])) _
        refine XS.astore X54.here hx rfl (hb hby at_19) rfl rfl (l' := #[.val (.int p0), .val (.int p1), .val (.int (0 : Int32)), .val (.int (3 : Int32)), .val (.ref wCARD_ERROR), .unset, .unset]) rfl ?_
        show Steps p.tables e below (T54.setTop (mkF m 21 #[.val (.int p0), .val (.int p1), .val (.int (0 : Int32)), .val (.int (3 : Int32)), .val (.ref wCARD_ERROR), .unset, .unset] [])) _
        refine XS.iloadN X54.here hx rfl (hb hby at_21) rfl ?_
        exact kt)
      rw [((by rw [f2, if_neg ((by decide) : ¬ ((3 : Int32) = (0 : Int32))), if_neg ((by decide) : ¬ ((3 : Int32) = (1 : Int32))), if_neg ((by decide) : ¬ ((3 : Int32) = (2 : Int32)))]) : (f2 (3 : Int32) wCARD_ERROR wPARTIAL wBALANCE wCREATE wPAYMENT_ERROR wLOAD wNO_TOPUP wORDINARY wBALANCE_ERROR) = .null)] at hQ56
      obtain ⟨rfl, N56q, e56⟩ := hQ56
      have N56 := Fr.app N54 N56q
      obtain ⟨cq58, kq58, q58a, q58b, q58c⟩ := isOf hZ e56 ECARD_ERROR
      obtain ⟨_, _, ⟨T58, L58, k58, n58⟩, -, X58, ⟨Lc58, hQ58, l58, y58, z58⟩, st58⟩ := X56.virtualBack hx (y := (⟨"com/example/cardstand/cardstand/scenario/CardScenario", "fails", "(Lcom/example/cardstand/cardstand/scenario/CardScenario$Operation;)Z"⟩ : MethodName)) (z := (⟨"com/example/cardstand/cardstand/scenario/CardScenario", "fails", "(Lcom/example/cardstand/cardstand/scenario/CardScenario$Operation;)Z"⟩ : MethodName)) hown (mvT hZ (hw _ (List.mem_of_getElem? (i := 11) rfl))) (mvT hZ (hw _ (List.mem_of_getElem? (i := 12) rfl))) (notFace_of_selects (args := #[]) (mvT hZ (hw _ (List.mem_of_getElem? (i := 14) rfl)))) (mvT hZ (hw _ (List.mem_of_getElem? (i := 14) rfl))) (mvT hZ (hw _ (List.mem_of_getElem? (i := 13) rfl))) (by decide) (backOf (W := 0) (rm5 l Z a0 hw [] wCARD_ERROR wCARD_ERROR wPARTIAL wBALANCE wCREATE wPAYMENT_ERROR wLOAD wNO_TOPUP wORDINARY wBALANCE_ERROR h0 n0 Z0 W0 ) hZ (hw _ (List.mem_of_getElem? (i := 15) rfl)) (hw _ (List.mem_of_getElem? (i := 6) rfl)) (by decide) (by decide)) q58a q58c (g := (mkF m 66 #[.val (.int p0), .val (.int p1), .val (.int (0 : Int32)), .val (.int (3 : Int32)), .val (.ref wCARD_ERROR), .val .null, .val (.int (0 : Int32))] [.null, (.ref wCARD_ERROR)])) rfl (by rw [hml]; rfl) (Steps.refl _) (argsL := [.null]) (rest := []) (lenOf pd_2 rfl) rfl (by show 2 * 0 + _ ≤ _; exact Nat.le_of_eq rfl) (hb hby at_66) (fun _ _ => ⟨rfl, e56, (by decide : 0 + 0 ≤ _), (by decide : 0 + 0 ≤ _)⟩)
      dsimp only [Pt.U, Pt.locs, Pt.cells, Pt.slots] at X58 l58 y58 z58 st58 hQ58
      subst l58 y58 z58
      unfold Q5 at hQ58
      have k59 : ∀ t, Steps p.tables e below (T56.setTop (mkF m 66 #[.val (.int p0), .val (.int p1), .val (.int (0 : Int32)), .val (.int (3 : Int32)), .val (.ref wCARD_ERROR), .val .null, .val (.int (0 : Int32))] [.null, (.ref wCARD_ERROR)])) t → Steps p.tables e below (s₁.setTop (entryFrame m #[(.int p0), (.int p1)] maxLocals)) t := fun t kt => k57 t (by
        show Steps p.tables e below (T54.setTop (mkF m 22 #[.val (.int p0), .val (.int p1), .val (.int (0 : Int32)), .val (.int (3 : Int32)), .val (.ref wCARD_ERROR), .unset, .unset] [(.int (3 : Int32))])) _
        refine st56 _ ?_
        show Steps p.tables e below (T56.setTop (mkF m 25 #[.val (.int p0), .val (.int p1), .val (.int (0 : Int32)), .val (.int (3 : Int32)), .val (.ref wCARD_ERROR), .unset, .unset] [.null])) _
        refine XS.astore X56.here hx rfl (hb hby at_25) rfl rfl (l' := #[.val (.int p0), .val (.int p1), .val (.int (0 : Int32)), .val (.int (3 : Int32)), .val (.ref wCARD_ERROR), .val .null, .unset]) rfl ?_
        show Steps p.tables e below (T56.setTop (mkF m 27 #[.val (.int p0), .val (.int p1), .val (.int (0 : Int32)), .val (.int (3 : Int32)), .val (.ref wCARD_ERROR), .val .null, .unset] [])) _
        refine XS.iloadN X56.here hx rfl (hb hby at_27) rfl ?_
        show Steps p.tables e below (T56.setTop (mkF m 28 #[.val (.int p0), .val (.int p1), .val (.int (0 : Int32)), .val (.int (3 : Int32)), .val (.ref wCARD_ERROR), .val .null, .unset] [(.int (0 : Int32))])) _
        refine XS.ifNo X56.here hx rfl (hb hby at_28) rfl ((if0 _ _).trans (teq (rfl : (0 : Int32) = (0 : Int32))).2) ?_
        show Steps p.tables e below (T56.setTop (mkF m 31 #[.val (.int p0), .val (.int p1), .val (.int (0 : Int32)), .val (.int (3 : Int32)), .val (.ref wCARD_ERROR), .val .null, .unset] [])) _
        refine XS.iloadN X56.here hx rfl (hb hby at_31) rfl ?_
        show Steps p.tables e below (T56.setTop (mkF m 32 #[.val (.int p0), .val (.int p1), .val (.int (0 : Int32)), .val (.int (3 : Int32)), .val (.ref wCARD_ERROR), .val .null, .unset] [(.int (3 : Int32))])) _
        refine XS.ifNo X56.here hx rfl (hb hby at_32) rfl ((if0 _ _).trans (feq ((by decide) : ¬ ((3 : Int32) = (0 : Int32)))).1) ?_
        show Steps p.tables e below (T56.setTop (mkF m 35 #[.val (.int p0), .val (.int p1), .val (.int (0 : Int32)), .val (.int (3 : Int32)), .val (.ref wCARD_ERROR), .val .null, .unset] [])) _
        refine XS.iloadN X56.here hx rfl (hb hby at_35) rfl ?_
        show Steps p.tables e below (T56.setTop (mkF m 36 #[.val (.int p0), .val (.int p1), .val (.int (0 : Int32)), .val (.int (3 : Int32)), .val (.ref wCARD_ERROR), .val .null, .unset] [(.int (0 : Int32))])) _
        refine XS.iconst X56.here hx rfl (hb hby at_36) ?_
        show Steps p.tables e below (T56.setTop (mkF m 37 #[.val (.int p0), .val (.int p1), .val (.int (0 : Int32)), .val (.int (3 : Int32)), .val (.ref wCARD_ERROR), .val .null, .unset] [(.int (3 : Int32)), (.int (0 : Int32))])) _
        refine XS.icmpYes X56.here hx rfl (pc0 := 37) (pc' := 45) rfl (hb hby at_37) rfl (feq ((by decide) : ¬ ((0 : Int32) = (3 : Int32)))).2 (by decide) (by decide) ?_
        show Steps p.tables e below (T56.setTop (mkF m 45 #[.val (.int p0), .val (.int p1), .val (.int (0 : Int32)), .val (.int (3 : Int32)), .val (.ref wCARD_ERROR), .val .null, .unset] [])) _
        refine XS.iloadN X56.here hx rfl (hb hby at_45) rfl ?_
        show Steps p.tables e below (T56.setTop (mkF m 46 #[.val (.int p0), .val (.int p1), .val (.int (0 : Int32)), .val (.int (3 : Int32)), .val (.ref wCARD_ERROR), .val .null, .unset] [(.int (0 : Int32))])) _
        refine XS.iconst X56.here hx rfl (hb hby at_46) ?_
        show Steps p.tables e below (T56.setTop (mkF m 47 #[.val (.int p0), .val (.int p1), .val (.int (0 : Int32)), .val (.int (3 : Int32)), .val (.ref wCARD_ERROR), .val .null, .unset] [(.int (4 : Int32)), (.int (0 : Int32))])) _
        refine XS.icmpYes X56.here hx rfl (pc0 := 47) (pc' := 59) rfl (hb hby at_47) rfl (feq ((by decide) : ¬ ((0 : Int32) = (4 : Int32)))).2 (by decide) (by decide) ?_
        show Steps p.tables e below (T56.setTop (mkF m 59 #[.val (.int p0), .val (.int p1), .val (.int (0 : Int32)), .val (.int (3 : Int32)), .val (.ref wCARD_ERROR), .val .null, .unset] [])) _
        refine XS.iconst X56.here hx rfl (hb hby at_59) ?_
        show Steps p.tables e below (T56.setTop (mkF m 60 #[.val (.int p0), .val (.int p1), .val (.int (0 : Int32)), .val (.int (3 : Int32)), .val (.ref wCARD_ERROR), .val .null, .unset] [(.int (0 : Int32))])) _
        refine XS.istore X56.here hx rfl (hb hby at_60) rfl (l' := #[.val (.int p0), .val (.int p1), .val (.int (0 : Int32)), .val (.int (3 : Int32)), .val (.ref wCARD_ERROR), .val .null, .val (.int (0 : Int32))]) rfl ?_
        show Steps p.tables e below (T56.setTop (mkF m 62 #[.val (.int p0), .val (.int p1), .val (.int (0 : Int32)), .val (.int (3 : Int32)), .val (.ref wCARD_ERROR), .val .null, .val (.int (0 : Int32))] [])) _
        refine XS.aload X56.here hx rfl (hb hby at_62) rfl rfl ?_
        show Steps p.tables e below (T56.setTop (mkF m 64 #[.val (.int p0), .val (.int p1), .val (.int (0 : Int32)), .val (.int (3 : Int32)), .val (.ref wCARD_ERROR), .val .null, .val (.int (0 : Int32))] [(.ref wCARD_ERROR)])) _
        refine XS.aload X56.here hx rfl (hb hby at_64) rfl rfl ?_
        exact kt)
      rw [((by rw [f5]) : (f5 wCARD_ERROR wCARD_ERROR wPARTIAL wBALANCE wCREATE wPAYMENT_ERROR wLOAD wNO_TOPUP wORDINARY wBALANCE_ERROR) = (0 : Int32))] at hQ58
      obtain ⟨rfl, N58q, e58⟩ := hQ58
      have N58 := Fr.app N56 N58q
      obtain ⟨fs, hr, hrun, hended, hW, hsame⟩ := X58.leave (v := some (.int (1 : Int32))) (fun h => by rw [Bd.returns] at h; cases h)
      refine ⟨_, _, k59 _ ?_, hrun, hended, _, _, rfl, ?_, ⟨_, rfl⟩, hW, hsame.mono (by decide) (by decide)⟩
      · show Steps p.tables e below (T56.setTop (mkF m 66 #[.val (.int p0), .val (.int p1), .val (.int (0 : Int32)), .val (.int (3 : Int32)), .val (.ref wCARD_ERROR), .val .null, .val (.int (0 : Int32))] [.null, (.ref wCARD_ERROR)])) _
        refine st58.trans ?_
        show Steps p.tables e below (T58.setTop (mkF m 69 #[.val (.int p0), .val (.int p1), .val (.int (0 : Int32)), .val (.int (3 : Int32)), .val (.ref wCARD_ERROR), .val .null, .val (.int (0 : Int32))] [(.int (0 : Int32))])) _
        refine XS.iload X58.here hx rfl (hb hby at_69) rfl ?_
        show Steps p.tables e below (T58.setTop (mkF m 71 #[.val (.int p0), .val (.int p1), .val (.int (0 : Int32)), .val (.int (3 : Int32)), .val (.ref wCARD_ERROR), .val .null, .val (.int (0 : Int32))] [(.int (0 : Int32)), (.int (0 : Int32))])) _
        refine XS.icmpNo X58.here hx rfl (hb hby at_71) rfl (teq (rfl : (0 : Int32) = (0 : Int32))).2 ?_
        show Steps p.tables e below (T58.setTop (mkF m 74 #[.val (.int p0), .val (.int p1), .val (.int (0 : Int32)), .val (.int (3 : Int32)), .val (.ref wCARD_ERROR), .val .null, .val (.int (0 : Int32))] [])) _
        refine XS.iconst X58.here hx rfl (hb hby at_74) ?_
        show Steps p.tables e below (T58.setTop (mkF m 75 #[.val (.int p0), .val (.int p1), .val (.int (0 : Int32)), .val (.int (3 : Int32)), .val (.ref wCARD_ERROR), .val .null, .val (.int (0 : Int32))] [(.int (1 : Int32))])) _
        refine XS.goto X58.here hx rfl (pc0 := 75) (pc' := 79) rfl (hb hby at_75) (by decide) (by decide) ?_
        show Steps p.tables e below (T58.setTop (mkF m 79 #[.val (.int p0), .val (.int p1), .val (.int (0 : Int32)), .val (.int (3 : Int32)), .val (.ref wCARD_ERROR), .val .null, .val (.int (0 : Int32))] [(.int (1 : Int32))])) _
        exact retN X58 hx (t := .boolean) Bd.returns (by simp) (hb hby at_79) hr
      · show Q0 Z p0 p1 wCARD_ERROR wPARTIAL wBALANCE wCREATE wPAYMENT_ERROR wLOAD wNO_TOPUP wORDINARY wBALANCE_ERROR h0 n0 _ T58.heap _
        rw [e58]
        exact ⟨rfl, N58⟩
  · subst hv32
    obtain ⟨i60, hi60⟩ : ∃ z, z = ((p1 &&& (2147483647 : Int32)) % (4 : Int32)) := ⟨_, rfl⟩
    have k61 : ∀ t, Steps p.tables e below (s₁.setTop (mkF m 15 #[.val (.int p0), .val (.int p1), .val (.int (1 : Int32)), .val (.int i60), .unset, .unset, .unset] [])) t → Steps p.tables e below (s₁.setTop (entryFrame m #[(.int p0), (.int p1)] maxLocals)) t := fun t kt => k31 t (by
      show Steps p.tables e below (s₁.setTop (mkF m 8 #[.val (.int p0), .val (.int p1), .val (.int (1 : Int32)), .unset, .unset, .unset, .unset] [])) _
      refine XS.iloadN X0.here hx rfl (hb hby at_8) rfl ?_
      show Steps p.tables e below (s₁.setTop (mkF m 9 #[.val (.int p0), .val (.int p1), .val (.int (1 : Int32)), .unset, .unset, .unset, .unset] [(.int p1)])) _
      refine X0.ldcInt hx hown (mvT hZ (hw _ (List.mem_of_getElem? (i := 0) rfl))) (g := (mkF m 9 #[.val (.int p0), .val (.int p1), .val (.int (1 : Int32)), .unset, .unset, .unset, .unset] [(.int p1)])) rfl (hb hby at_9) _ ?_
      show Steps p.tables e below (s₁.setTop (mkF m 11 #[.val (.int p0), .val (.int p1), .val (.int (1 : Int32)), .unset, .unset, .unset, .unset] [(.int (2147483647 : Int32)), (.int p1)])) _
      refine XS.iand X0.here hx rfl (hb hby at_11) rfl ?_
      show Steps p.tables e below (s₁.setTop (mkF m 12 #[.val (.int p0), .val (.int p1), .val (.int (1 : Int32)), .unset, .unset, .unset, .unset] [(.int (p1 &&& (2147483647 : Int32)))])) _
      refine XS.iconst X0.here hx rfl (hb hby at_12) ?_
      show Steps p.tables e below (s₁.setTop (mkF m 13 #[.val (.int p0), .val (.int p1), .val (.int (1 : Int32)), .unset, .unset, .unset, .unset] [(.int (4 : Int32)), (.int (p1 &&& (2147483647 : Int32)))])) _
      refine iremM X0 hx rfl (hb hby at_13) rfl (by decide) ?_
      rw [← hi60]
      show Steps p.tables e below (s₁.setTop (mkF m 14 #[.val (.int p0), .val (.int p1), .val (.int (1 : Int32)), .unset, .unset, .unset, .unset] [(.int i60)])) _
      refine XS.istoreN X0.here hx rfl (hb hby at_14) rfl (l' := #[.val (.int p0), .val (.int p1), .val (.int (1 : Int32)), .val (.int i60), .unset, .unset, .unset]) rfl ?_
      exact kt)
    rcases own_cases4 hi60 with hv62 | hv62 | hv62 | hv62
    · subst hv62
      obtain ⟨_, _, ⟨T63, L63, k63, n63⟩, -, X63, ⟨Lc63, hQ63, l63, y63, z63⟩, st63⟩ := Jvm.LawKit.callS X0 hx (y := (⟨"com/example/cardstand/cardstand/scenario/CardScenarioFailsPinLaw", "scenario", "(I)Lcom/example/cardstand/cardstand/scenario/CardScenario;"⟩ : MethodName)) hown (mvT hZ (hw _ (List.mem_of_getElem? (i := 1) rfl))) (mvT hZ (hw _ (List.mem_of_getElem? (i := 2) rfl))) (mvT hZ (hw _ (List.mem_of_getElem? (i := 3) rfl))) (mvT hZ (hw _ (List.mem_of_getElem? (i := 4) rfl))) (by decide) (backOf (W := 0) (rm1 l Z a0 hw [] (1 : Int32) wCARD_ERROR wPARTIAL wBALANCE wCREATE wPAYMENT_ERROR wLOAD wNO_TOPUP wORDINARY wBALANCE_ERROR h0 n0 Z0 W0 ) hZ (hw _ (List.mem_of_getElem? (i := 4) rfl)) (hw _ (List.mem_of_getElem? (i := 3) rfl)) (by decide) (by decide)) (g := (mkF m 16 #[.val (.int p0), .val (.int p1), .val (.int (1 : Int32)), .val (.int (0 : Int32)), .unset, .unset, .unset] [(.int (1 : Int32))])) rfl (by rw [hml]; rfl) (argsL := [(.int (1 : Int32))]) (rest := []) (lenOf pd_0 rfl) rfl (by show 2 * 0 + _ ≤ _; exact Nat.le_of_eq rfl) (hb hby at_16) (fun _ _ => ⟨rfl, e0, (by decide : 0 + 0 ≤ _), (by decide : 0 + 0 ≤ _)⟩)
      dsimp only [Pt.U, Pt.locs, Pt.cells, Pt.slots] at X63 l63 y63 z63 st63 hQ63
      subst l63 y63 z63
      unfold Q1 at hQ63
      have k64 : ∀ t, Steps p.tables e below (s₁.setTop (mkF m 16 #[.val (.int p0), .val (.int p1), .val (.int (1 : Int32)), .val (.int (0 : Int32)), .unset, .unset, .unset] [(.int (1 : Int32))])) t → Steps p.tables e below (s₁.setTop (entryFrame m #[(.int p0), (.int p1)] maxLocals)) t := fun t kt => k61 t (by
        show Steps p.tables e below (s₁.setTop (mkF m 15 #[.val (.int p0), .val (.int p1), .val (.int (1 : Int32)), .val (.int (0 : Int32)), .unset, .unset, .unset] [])) _
        refine XS.iloadN X0.here hx rfl (hb hby at_15) rfl ?_
        exact kt)
      rw [((by rw [f1, if_neg ((by decide) : ¬ ((1 : Int32) = (0 : Int32))), if_pos (rfl : (1 : Int32) = (1 : Int32))]) : (f1 (1 : Int32) wCARD_ERROR wPARTIAL wBALANCE wCREATE wPAYMENT_ERROR wLOAD wNO_TOPUP wORDINARY wBALANCE_ERROR) = wNO_TOPUP)] at hQ63
      obtain ⟨rfl, N63q, e63⟩ := hQ63
      have N63 := Fr.app N0 N63q
      obtain ⟨_, _, ⟨T65, L65, k65, n65⟩, -, X65, ⟨Lc65, hQ65, l65, y65, z65⟩, st65⟩ := Jvm.LawKit.callS X63 hx (y := (⟨"com/example/cardstand/cardstand/scenario/CardScenarioFailsPinLaw", "operation", "(I)Lcom/example/cardstand/cardstand/scenario/CardScenario$Operation;"⟩ : MethodName)) hown (mvT hZ (hw _ (List.mem_of_getElem? (i := 8) rfl))) (mvT hZ (hw _ (List.mem_of_getElem? (i := 9) rfl))) (mvT hZ (hw _ (List.mem_of_getElem? (i := 3) rfl))) (mvT hZ (hw _ (List.mem_of_getElem? (i := 10) rfl))) (by decide) (backOf (W := 0) (rm2 l Z a0 hw [] (0 : Int32) wCARD_ERROR wPARTIAL wBALANCE wCREATE wPAYMENT_ERROR wLOAD wNO_TOPUP wORDINARY wBALANCE_ERROR h0 n0 Z0 W0 ) hZ (hw _ (List.mem_of_getElem? (i := 10) rfl)) (hw _ (List.mem_of_getElem? (i := 3) rfl)) (by decide) (by decide)) (g := (mkF m 22 #[.val (.int p0), .val (.int p1), .val (.int (1 : Int32)), .val (.int (0 : Int32)), .val (.ref wNO_TOPUP), .unset, .unset] [(.int (0 : Int32))])) rfl (by rw [hml]; rfl) (argsL := [(.int (0 : Int32))]) (rest := []) (lenOf pd_1 rfl) rfl (by show 2 * 0 + _ ≤ _; exact Nat.le_of_eq rfl) (hb hby at_22) (fun _ _ => ⟨rfl, e63, (by decide : 0 + 0 ≤ _), (by decide : 0 + 0 ≤ _)⟩)
      dsimp only [Pt.U, Pt.locs, Pt.cells, Pt.slots] at X65 l65 y65 z65 st65 hQ65
      subst l65 y65 z65
      unfold Q2 at hQ65
      have k66 : ∀ t, Steps p.tables e below (T63.setTop (mkF m 22 #[.val (.int p0), .val (.int p1), .val (.int (1 : Int32)), .val (.int (0 : Int32)), .val (.ref wNO_TOPUP), .unset, .unset] [(.int (0 : Int32))])) t → Steps p.tables e below (s₁.setTop (entryFrame m #[(.int p0), (.int p1)] maxLocals)) t := fun t kt => k64 t (by
        show Steps p.tables e below (s₁.setTop (mkF m 16 #[.val (.int p0), .val (.int p1), .val (.int (1 : Int32)), .val (.int (0 : Int32)), .unset, .unset, .unset] [(.int (1 : Int32))])) _
        refine st63 _ ?_
        show Steps p.tables e below (T63.setTop (mkF m 19 #[.val (.int p0), .val (.int p1), .val (.int (1 : Int32)), .val (.int (0 : Int32)), .unset, .unset, .unset] [(.ref wNO_TOPUP)])) _
        refine XS.astore X63.here hx rfl (hb hby at_19) rfl rfl (l' := #[.val (.int p0), .val (.int p1), .val (.int (1 : Int32)), .val (.int (0 : Int32)), .val (.ref wNO_TOPUP), .unset, .unset]) rfl ?_
        show Steps p.tables e below (T63.setTop (mkF m 21 #[.val (.int p0), .val (.int p1), .val (.int (1 : Int32)), .val (.int (0 : Int32)), .val (.ref wNO_TOPUP), .unset, .unset] [])) _
        refine XS.iloadN X63.here hx rfl (hb hby at_21) rfl ?_
        exact kt)
      rw [((by rw [f2, if_pos (rfl : (0 : Int32) = (0 : Int32))]) : (f2 (0 : Int32) wCARD_ERROR wPARTIAL wBALANCE wCREATE wPAYMENT_ERROR wLOAD wNO_TOPUP wORDINARY wBALANCE_ERROR) = (.ref wCREATE))] at hQ65
      obtain ⟨rfl, N65q, e65⟩ := hQ65
      have N65 := Fr.app N63 N65q
      obtain ⟨cq67, kq67, q67a, q67b, q67c⟩ := isOf hZ e65 ENO_TOPUP
      obtain ⟨_, _, ⟨T67, L67, k67, n67⟩, -, X67, ⟨Lc67, hQ67, l67, y67, z67⟩, st67⟩ := X65.virtualBack hx (y := (⟨"com/example/cardstand/cardstand/scenario/CardScenario", "fails", "(Lcom/example/cardstand/cardstand/scenario/CardScenario$Operation;)Z"⟩ : MethodName)) (z := (⟨"com/example/cardstand/cardstand/scenario/CardScenario", "fails", "(Lcom/example/cardstand/cardstand/scenario/CardScenario$Operation;)Z"⟩ : MethodName)) hown (mvT hZ (hw _ (List.mem_of_getElem? (i := 11) rfl))) (mvT hZ (hw _ (List.mem_of_getElem? (i := 12) rfl))) (notFace_of_selects (args := #[]) (mvT hZ (hw _ (List.mem_of_getElem? (i := 14) rfl)))) (mvT hZ (hw _ (List.mem_of_getElem? (i := 14) rfl))) (mvT hZ (hw _ (List.mem_of_getElem? (i := 13) rfl))) (by decide) (backOf (W := 0) (rm4 l Z a0 hw [] wNO_TOPUP wCREATE wCARD_ERROR wPARTIAL wBALANCE wCREATE wPAYMENT_ERROR wLOAD wNO_TOPUP wORDINARY wBALANCE_ERROR h0 n0 Z0 W0 FNO_TOPUP_failing) hZ (hw _ (List.mem_of_getElem? (i := 15) rfl)) (hw _ (List.mem_of_getElem? (i := 6) rfl)) (by decide) (by decide)) q67a q67c (g := (mkF m 66 #[.val (.int p0), .val (.int p1), .val (.int (1 : Int32)), .val (.int (0 : Int32)), .val (.ref wNO_TOPUP), .val (.ref wCREATE), .val (.int (0 : Int32))] [(.ref wCREATE), (.ref wNO_TOPUP)])) rfl (by rw [hml]; rfl) (Steps.refl _) (argsL := [(.ref wCREATE)]) (rest := []) (lenOf pd_2 rfl) rfl (by show 2 * 0 + _ ≤ _; exact Nat.le_of_eq rfl) (hb hby at_66) (fun _ _ => ⟨rfl, e65, (by decide : 0 + 0 ≤ _), (by decide : 0 + 0 ≤ _)⟩)
      dsimp only [Pt.U, Pt.locs, Pt.cells, Pt.slots] at X67 l67 y67 z67 st67 hQ67
      subst l67 y67 z67
      unfold Q4 at hQ67
      have k68 : ∀ t, Steps p.tables e below (T65.setTop (mkF m 66 #[.val (.int p0), .val (.int p1), .val (.int (1 : Int32)), .val (.int (0 : Int32)), .val (.ref wNO_TOPUP), .val (.ref wCREATE), .val (.int (0 : Int32))] [(.ref wCREATE), (.ref wNO_TOPUP)])) t → Steps p.tables e below (s₁.setTop (entryFrame m #[(.int p0), (.int p1)] maxLocals)) t := fun t kt => k66 t (by
        show Steps p.tables e below (T63.setTop (mkF m 22 #[.val (.int p0), .val (.int p1), .val (.int (1 : Int32)), .val (.int (0 : Int32)), .val (.ref wNO_TOPUP), .unset, .unset] [(.int (0 : Int32))])) _
        refine st65 _ ?_
        show Steps p.tables e below (T65.setTop (mkF m 25 #[.val (.int p0), .val (.int p1), .val (.int (1 : Int32)), .val (.int (0 : Int32)), .val (.ref wNO_TOPUP), .unset, .unset] [(.ref wCREATE)])) _
        refine XS.astore X65.here hx rfl (hb hby at_25) rfl rfl (l' := #[.val (.int p0), .val (.int p1), .val (.int (1 : Int32)), .val (.int (0 : Int32)), .val (.ref wNO_TOPUP), .val (.ref wCREATE), .unset]) rfl ?_
        show Steps p.tables e below (T65.setTop (mkF m 27 #[.val (.int p0), .val (.int p1), .val (.int (1 : Int32)), .val (.int (0 : Int32)), .val (.ref wNO_TOPUP), .val (.ref wCREATE), .unset] [])) _
        refine XS.iloadN X65.here hx rfl (hb hby at_27) rfl ?_
        show Steps p.tables e below (T65.setTop (mkF m 28 #[.val (.int p0), .val (.int p1), .val (.int (1 : Int32)), .val (.int (0 : Int32)), .val (.ref wNO_TOPUP), .val (.ref wCREATE), .unset] [(.int (1 : Int32))])) _
        refine XS.ifYes X65.here hx rfl (pc0 := 28) (pc' := 35) rfl (hb hby at_28) rfl ((if0 _ _).trans (feq ((by decide) : ¬ ((1 : Int32) = (0 : Int32)))).2) (by decide) (by decide) ?_
        show Steps p.tables e below (T65.setTop (mkF m 35 #[.val (.int p0), .val (.int p1), .val (.int (1 : Int32)), .val (.int (0 : Int32)), .val (.ref wNO_TOPUP), .val (.ref wCREATE), .unset] [])) _
        refine XS.iloadN X65.here hx rfl (hb hby at_35) rfl ?_
        show Steps p.tables e below (T65.setTop (mkF m 36 #[.val (.int p0), .val (.int p1), .val (.int (1 : Int32)), .val (.int (0 : Int32)), .val (.ref wNO_TOPUP), .val (.ref wCREATE), .unset] [(.int (1 : Int32))])) _
        refine XS.iconst X65.here hx rfl (hb hby at_36) ?_
        show Steps p.tables e below (T65.setTop (mkF m 37 #[.val (.int p0), .val (.int p1), .val (.int (1 : Int32)), .val (.int (0 : Int32)), .val (.ref wNO_TOPUP), .val (.ref wCREATE), .unset] [(.int (3 : Int32)), (.int (1 : Int32))])) _
        refine XS.icmpYes X65.here hx rfl (pc0 := 37) (pc' := 45) rfl (hb hby at_37) rfl (feq ((by decide) : ¬ ((1 : Int32) = (3 : Int32)))).2 (by decide) (by decide) ?_
        show Steps p.tables e below (T65.setTop (mkF m 45 #[.val (.int p0), .val (.int p1), .val (.int (1 : Int32)), .val (.int (0 : Int32)), .val (.ref wNO_TOPUP), .val (.ref wCREATE), .unset] [])) _
        refine XS.iloadN X65.here hx rfl (hb hby at_45) rfl ?_
        show Steps p.tables e below (T65.setTop (mkF m 46 #[.val (.int p0), .val (.int p1), .val (.int (1 : Int32)), .val (.int (0 : Int32)), .val (.ref wNO_TOPUP), .val (.ref wCREATE), .unset] [(.int (1 : Int32))])) _
        refine XS.iconst X65.here hx rfl (hb hby at_46) ?_
        show Steps p.tables e below (T65.setTop (mkF m 47 #[.val (.int p0), .val (.int p1), .val (.int (1 : Int32)), .val (.int (0 : Int32)), .val (.ref wNO_TOPUP), .val (.ref wCREATE), .unset] [(.int (4 : Int32)), (.int (1 : Int32))])) _
        refine XS.icmpYes X65.here hx rfl (pc0 := 47) (pc' := 59) rfl (hb hby at_47) rfl (feq ((by decide) : ¬ ((1 : Int32) = (4 : Int32)))).2 (by decide) (by decide) ?_
        show Steps p.tables e below (T65.setTop (mkF m 59 #[.val (.int p0), .val (.int p1), .val (.int (1 : Int32)), .val (.int (0 : Int32)), .val (.ref wNO_TOPUP), .val (.ref wCREATE), .unset] [])) _
        refine XS.iconst X65.here hx rfl (hb hby at_59) ?_
        show Steps p.tables e below (T65.setTop (mkF m 60 #[.val (.int p0), .val (.int p1), .val (.int (1 : Int32)), .val (.int (0 : Int32)), .val (.ref wNO_TOPUP), .val (.ref wCREATE), .unset] [(.int (0 : Int32))])) _
        refine XS.istore X65.here hx rfl (hb hby at_60) rfl (l' := #[.val (.int p0), .val (.int p1), .val (.int (1 : Int32)), .val (.int (0 : Int32)), .val (.ref wNO_TOPUP), .val (.ref wCREATE), .val (.int (0 : Int32))]) rfl ?_
        show Steps p.tables e below (T65.setTop (mkF m 62 #[.val (.int p0), .val (.int p1), .val (.int (1 : Int32)), .val (.int (0 : Int32)), .val (.ref wNO_TOPUP), .val (.ref wCREATE), .val (.int (0 : Int32))] [])) _
        refine XS.aload X65.here hx rfl (hb hby at_62) rfl rfl ?_
        show Steps p.tables e below (T65.setTop (mkF m 64 #[.val (.int p0), .val (.int p1), .val (.int (1 : Int32)), .val (.int (0 : Int32)), .val (.ref wNO_TOPUP), .val (.ref wCREATE), .val (.int (0 : Int32))] [(.ref wNO_TOPUP)])) _
        refine XS.aload X65.here hx rfl (hb hby at_64) rfl rfl ?_
        exact kt)
      rw [((by rw [f4]) : (f4 wNO_TOPUP wCREATE wCARD_ERROR wPARTIAL wBALANCE wCREATE wPAYMENT_ERROR wLOAD wNO_TOPUP wORDINARY wBALANCE_ERROR) = (0 : Int32))] at hQ67
      obtain ⟨rfl, N67q, e67⟩ := hQ67
      have N67 := Fr.app N65 N67q
      obtain ⟨fs, hr, hrun, hended, hW, hsame⟩ := X67.leave (v := some (.int (1 : Int32))) (fun h => by rw [Bd.returns] at h; cases h)
      refine ⟨_, _, k68 _ ?_, hrun, hended, _, _, rfl, ?_, ⟨_, rfl⟩, hW, hsame.mono (by decide) (by decide)⟩
      · show Steps p.tables e below (T65.setTop (mkF m 66 #[.val (.int p0), .val (.int p1), .val (.int (1 : Int32)), .val (.int (0 : Int32)), .val (.ref wNO_TOPUP), .val (.ref wCREATE), .val (.int (0 : Int32))] [(.ref wCREATE), (.ref wNO_TOPUP)])) _
        refine st67.trans ?_
        show Steps p.tables e below (T67.setTop (mkF m 69 #[.val (.int p0), .val (.int p1), .val (.int (1 : Int32)), .val (.int (0 : Int32)), .val (.ref wNO_TOPUP), .val (.ref wCREATE), .val (.int (0 : Int32))] [(.int (0 : Int32))])) _
        refine XS.iload X67.here hx rfl (hb hby at_69) rfl ?_
        show Steps p.tables e below (T67.setTop (mkF m 71 #[.val (.int p0), .val (.int p1), .val (.int (1 : Int32)), .val (.int (0 : Int32)), .val (.ref wNO_TOPUP), .val (.ref wCREATE), .val (.int (0 : Int32))] [(.int (0 : Int32)), (.int (0 : Int32))])) _
        refine XS.icmpNo X67.here hx rfl (hb hby at_71) rfl (teq (rfl : (0 : Int32) = (0 : Int32))).2 ?_
        show Steps p.tables e below (T67.setTop (mkF m 74 #[.val (.int p0), .val (.int p1), .val (.int (1 : Int32)), .val (.int (0 : Int32)), .val (.ref wNO_TOPUP), .val (.ref wCREATE), .val (.int (0 : Int32))] [])) _
        refine XS.iconst X67.here hx rfl (hb hby at_74) ?_
        show Steps p.tables e below (T67.setTop (mkF m 75 #[.val (.int p0), .val (.int p1), .val (.int (1 : Int32)), .val (.int (0 : Int32)), .val (.ref wNO_TOPUP), .val (.ref wCREATE), .val (.int (0 : Int32))] [(.int (1 : Int32))])) _
        refine XS.goto X67.here hx rfl (pc0 := 75) (pc' := 79) rfl (hb hby at_75) (by decide) (by decide) ?_
        show Steps p.tables e below (T67.setTop (mkF m 79 #[.val (.int p0), .val (.int p1), .val (.int (1 : Int32)), .val (.int (0 : Int32)), .val (.ref wNO_TOPUP), .val (.ref wCREATE), .val (.int (0 : Int32))] [(.int (1 : Int32))])) _
        exact retN X67 hx (t := .boolean) Bd.returns (by simp) (hb hby at_79) hr
      · show Q0 Z p0 p1 wCARD_ERROR wPARTIAL wBALANCE wCREATE wPAYMENT_ERROR wLOAD wNO_TOPUP wORDINARY wBALANCE_ERROR h0 n0 _ T67.heap _
        rw [e67]
        exact ⟨rfl, N67⟩
    · subst hv62
      obtain ⟨_, _, ⟨T69, L69, k69, n69⟩, -, X69, ⟨Lc69, hQ69, l69, y69, z69⟩, st69⟩ := Jvm.LawKit.callS X0 hx (y := (⟨"com/example/cardstand/cardstand/scenario/CardScenarioFailsPinLaw", "scenario", "(I)Lcom/example/cardstand/cardstand/scenario/CardScenario;"⟩ : MethodName)) hown (mvT hZ (hw _ (List.mem_of_getElem? (i := 1) rfl))) (mvT hZ (hw _ (List.mem_of_getElem? (i := 2) rfl))) (mvT hZ (hw _ (List.mem_of_getElem? (i := 3) rfl))) (mvT hZ (hw _ (List.mem_of_getElem? (i := 4) rfl))) (by decide) (backOf (W := 0) (rm1 l Z a0 hw [] (1 : Int32) wCARD_ERROR wPARTIAL wBALANCE wCREATE wPAYMENT_ERROR wLOAD wNO_TOPUP wORDINARY wBALANCE_ERROR h0 n0 Z0 W0 ) hZ (hw _ (List.mem_of_getElem? (i := 4) rfl)) (hw _ (List.mem_of_getElem? (i := 3) rfl)) (by decide) (by decide)) (g := (mkF m 16 #[.val (.int p0), .val (.int p1), .val (.int (1 : Int32)), .val (.int (1 : Int32)), .unset, .unset, .unset] [(.int (1 : Int32))])) rfl (by rw [hml]; rfl) (argsL := [(.int (1 : Int32))]) (rest := []) (lenOf pd_0 rfl) rfl (by show 2 * 0 + _ ≤ _; exact Nat.le_of_eq rfl) (hb hby at_16) (fun _ _ => ⟨rfl, e0, (by decide : 0 + 0 ≤ _), (by decide : 0 + 0 ≤ _)⟩)
      dsimp only [Pt.U, Pt.locs, Pt.cells, Pt.slots] at X69 l69 y69 z69 st69 hQ69
      subst l69 y69 z69
      unfold Q1 at hQ69
      have k70 : ∀ t, Steps p.tables e below (s₁.setTop (mkF m 16 #[.val (.int p0), .val (.int p1), .val (.int (1 : Int32)), .val (.int (1 : Int32)), .unset, .unset, .unset] [(.int (1 : Int32))])) t → Steps p.tables e below (s₁.setTop (entryFrame m #[(.int p0), (.int p1)] maxLocals)) t := fun t kt => k61 t (by
        show Steps p.tables e below (s₁.setTop (mkF m 15 #[.val (.int p0), .val (.int p1), .val (.int (1 : Int32)), .val (.int (1 : Int32)), .unset, .unset, .unset] [])) _
        refine XS.iloadN X0.here hx rfl (hb hby at_15) rfl ?_
        exact kt)
      rw [((by rw [f1, if_neg ((by decide) : ¬ ((1 : Int32) = (0 : Int32))), if_pos (rfl : (1 : Int32) = (1 : Int32))]) : (f1 (1 : Int32) wCARD_ERROR wPARTIAL wBALANCE wCREATE wPAYMENT_ERROR wLOAD wNO_TOPUP wORDINARY wBALANCE_ERROR) = wNO_TOPUP)] at hQ69
      obtain ⟨rfl, N69q, e69⟩ := hQ69
      have N69 := Fr.app N0 N69q
      obtain ⟨_, _, ⟨T71, L71, k71, n71⟩, -, X71, ⟨Lc71, hQ71, l71, y71, z71⟩, st71⟩ := Jvm.LawKit.callS X69 hx (y := (⟨"com/example/cardstand/cardstand/scenario/CardScenarioFailsPinLaw", "operation", "(I)Lcom/example/cardstand/cardstand/scenario/CardScenario$Operation;"⟩ : MethodName)) hown (mvT hZ (hw _ (List.mem_of_getElem? (i := 8) rfl))) (mvT hZ (hw _ (List.mem_of_getElem? (i := 9) rfl))) (mvT hZ (hw _ (List.mem_of_getElem? (i := 3) rfl))) (mvT hZ (hw _ (List.mem_of_getElem? (i := 10) rfl))) (by decide) (backOf (W := 0) (rm2 l Z a0 hw [] (1 : Int32) wCARD_ERROR wPARTIAL wBALANCE wCREATE wPAYMENT_ERROR wLOAD wNO_TOPUP wORDINARY wBALANCE_ERROR h0 n0 Z0 W0 ) hZ (hw _ (List.mem_of_getElem? (i := 10) rfl)) (hw _ (List.mem_of_getElem? (i := 3) rfl)) (by decide) (by decide)) (g := (mkF m 22 #[.val (.int p0), .val (.int p1), .val (.int (1 : Int32)), .val (.int (1 : Int32)), .val (.ref wNO_TOPUP), .unset, .unset] [(.int (1 : Int32))])) rfl (by rw [hml]; rfl) (argsL := [(.int (1 : Int32))]) (rest := []) (lenOf pd_1 rfl) rfl (by show 2 * 0 + _ ≤ _; exact Nat.le_of_eq rfl) (hb hby at_22) (fun _ _ => ⟨rfl, e69, (by decide : 0 + 0 ≤ _), (by decide : 0 + 0 ≤ _)⟩)
      dsimp only [Pt.U, Pt.locs, Pt.cells, Pt.slots] at X71 l71 y71 z71 st71 hQ71
      subst l71 y71 z71
      unfold Q2 at hQ71
      have k72 : ∀ t, Steps p.tables e below (T69.setTop (mkF m 22 #[.val (.int p0), .val (.int p1), .val (.int (1 : Int32)), .val (.int (1 : Int32)), .val (.ref wNO_TOPUP), .unset, .unset] [(.int (1 : Int32))])) t → Steps p.tables e below (s₁.setTop (entryFrame m #[(.int p0), (.int p1)] maxLocals)) t := fun t kt => k70 t (by
        show Steps p.tables e below (s₁.setTop (mkF m 16 #[.val (.int p0), .val (.int p1), .val (.int (1 : Int32)), .val (.int (1 : Int32)), .unset, .unset, .unset] [(.int (1 : Int32))])) _
        refine st69 _ ?_
        show Steps p.tables e below (T69.setTop (mkF m 19 #[.val (.int p0), .val (.int p1), .val (.int (1 : Int32)), .val (.int (1 : Int32)), .unset, .unset, .unset] [(.ref wNO_TOPUP)])) _
        refine XS.astore X69.here hx rfl (hb hby at_19) rfl rfl (l' := #[.val (.int p0), .val (.int p1), .val (.int (1 : Int32)), .val (.int (1 : Int32)), .val (.ref wNO_TOPUP), .unset, .unset]) rfl ?_
        show Steps p.tables e below (T69.setTop (mkF m 21 #[.val (.int p0), .val (.int p1), .val (.int (1 : Int32)), .val (.int (1 : Int32)), .val (.ref wNO_TOPUP), .unset, .unset] [])) _
        refine XS.iloadN X69.here hx rfl (hb hby at_21) rfl ?_
        exact kt)
      rw [((by rw [f2, if_neg ((by decide) : ¬ ((1 : Int32) = (0 : Int32))), if_pos (rfl : (1 : Int32) = (1 : Int32))]) : (f2 (1 : Int32) wCARD_ERROR wPARTIAL wBALANCE wCREATE wPAYMENT_ERROR wLOAD wNO_TOPUP wORDINARY wBALANCE_ERROR) = (.ref wBALANCE))] at hQ71
      obtain ⟨rfl, N71q, e71⟩ := hQ71
      have N71 := Fr.app N69 N71q
      obtain ⟨cq73, kq73, q73a, q73b, q73c⟩ := isOf hZ e71 ENO_TOPUP
      obtain ⟨_, _, ⟨T73, L73, k73, n73⟩, -, X73, ⟨Lc73, hQ73, l73, y73, z73⟩, st73⟩ := X71.virtualBack hx (y := (⟨"com/example/cardstand/cardstand/scenario/CardScenario", "fails", "(Lcom/example/cardstand/cardstand/scenario/CardScenario$Operation;)Z"⟩ : MethodName)) (z := (⟨"com/example/cardstand/cardstand/scenario/CardScenario", "fails", "(Lcom/example/cardstand/cardstand/scenario/CardScenario$Operation;)Z"⟩ : MethodName)) hown (mvT hZ (hw _ (List.mem_of_getElem? (i := 11) rfl))) (mvT hZ (hw _ (List.mem_of_getElem? (i := 12) rfl))) (notFace_of_selects (args := #[]) (mvT hZ (hw _ (List.mem_of_getElem? (i := 14) rfl)))) (mvT hZ (hw _ (List.mem_of_getElem? (i := 14) rfl))) (mvT hZ (hw _ (List.mem_of_getElem? (i := 13) rfl))) (by decide) (backOf (W := 0) (rm4 l Z a0 hw [] wNO_TOPUP wBALANCE wCARD_ERROR wPARTIAL wBALANCE wCREATE wPAYMENT_ERROR wLOAD wNO_TOPUP wORDINARY wBALANCE_ERROR h0 n0 Z0 W0 FNO_TOPUP_failing) hZ (hw _ (List.mem_of_getElem? (i := 15) rfl)) (hw _ (List.mem_of_getElem? (i := 6) rfl)) (by decide) (by decide)) q73a q73c (g := (mkF m 66 #[.val (.int p0), .val (.int p1), .val (.int (1 : Int32)), .val (.int (1 : Int32)), .val (.ref wNO_TOPUP), .val (.ref wBALANCE), .val (.int (0 : Int32))] [(.ref wBALANCE), (.ref wNO_TOPUP)])) rfl (by rw [hml]; rfl) (Steps.refl _) (argsL := [(.ref wBALANCE)]) (rest := []) (lenOf pd_2 rfl) rfl (by show 2 * 0 + _ ≤ _; exact Nat.le_of_eq rfl) (hb hby at_66) (fun _ _ => ⟨rfl, e71, (by decide : 0 + 0 ≤ _), (by decide : 0 + 0 ≤ _)⟩)
      dsimp only [Pt.U, Pt.locs, Pt.cells, Pt.slots] at X73 l73 y73 z73 st73 hQ73
      subst l73 y73 z73
      unfold Q4 at hQ73
      have k74 : ∀ t, Steps p.tables e below (T71.setTop (mkF m 66 #[.val (.int p0), .val (.int p1), .val (.int (1 : Int32)), .val (.int (1 : Int32)), .val (.ref wNO_TOPUP), .val (.ref wBALANCE), .val (.int (0 : Int32))] [(.ref wBALANCE), (.ref wNO_TOPUP)])) t → Steps p.tables e below (s₁.setTop (entryFrame m #[(.int p0), (.int p1)] maxLocals)) t := fun t kt => k72 t (by
        show Steps p.tables e below (T69.setTop (mkF m 22 #[.val (.int p0), .val (.int p1), .val (.int (1 : Int32)), .val (.int (1 : Int32)), .val (.ref wNO_TOPUP), .unset, .unset] [(.int (1 : Int32))])) _
        refine st71 _ ?_
        show Steps p.tables e below (T71.setTop (mkF m 25 #[.val (.int p0), .val (.int p1), .val (.int (1 : Int32)), .val (.int (1 : Int32)), .val (.ref wNO_TOPUP), .unset, .unset] [(.ref wBALANCE)])) _
        refine XS.astore X71.here hx rfl (hb hby at_25) rfl rfl (l' := #[.val (.int p0), .val (.int p1), .val (.int (1 : Int32)), .val (.int (1 : Int32)), .val (.ref wNO_TOPUP), .val (.ref wBALANCE), .unset]) rfl ?_
        show Steps p.tables e below (T71.setTop (mkF m 27 #[.val (.int p0), .val (.int p1), .val (.int (1 : Int32)), .val (.int (1 : Int32)), .val (.ref wNO_TOPUP), .val (.ref wBALANCE), .unset] [])) _
        refine XS.iloadN X71.here hx rfl (hb hby at_27) rfl ?_
        show Steps p.tables e below (T71.setTop (mkF m 28 #[.val (.int p0), .val (.int p1), .val (.int (1 : Int32)), .val (.int (1 : Int32)), .val (.ref wNO_TOPUP), .val (.ref wBALANCE), .unset] [(.int (1 : Int32))])) _
        refine XS.ifYes X71.here hx rfl (pc0 := 28) (pc' := 35) rfl (hb hby at_28) rfl ((if0 _ _).trans (feq ((by decide) : ¬ ((1 : Int32) = (0 : Int32)))).2) (by decide) (by decide) ?_
        show Steps p.tables e below (T71.setTop (mkF m 35 #[.val (.int p0), .val (.int p1), .val (.int (1 : Int32)), .val (.int (1 : Int32)), .val (.ref wNO_TOPUP), .val (.ref wBALANCE), .unset] [])) _
        refine XS.iloadN X71.here hx rfl (hb hby at_35) rfl ?_
        show Steps p.tables e below (T71.setTop (mkF m 36 #[.val (.int p0), .val (.int p1), .val (.int (1 : Int32)), .val (.int (1 : Int32)), .val (.ref wNO_TOPUP), .val (.ref wBALANCE), .unset] [(.int (1 : Int32))])) _
        refine XS.iconst X71.here hx rfl (hb hby at_36) ?_
        show Steps p.tables e below (T71.setTop (mkF m 37 #[.val (.int p0), .val (.int p1), .val (.int (1 : Int32)), .val (.int (1 : Int32)), .val (.ref wNO_TOPUP), .val (.ref wBALANCE), .unset] [(.int (3 : Int32)), (.int (1 : Int32))])) _
        refine XS.icmpYes X71.here hx rfl (pc0 := 37) (pc' := 45) rfl (hb hby at_37) rfl (feq ((by decide) : ¬ ((1 : Int32) = (3 : Int32)))).2 (by decide) (by decide) ?_
        show Steps p.tables e below (T71.setTop (mkF m 45 #[.val (.int p0), .val (.int p1), .val (.int (1 : Int32)), .val (.int (1 : Int32)), .val (.ref wNO_TOPUP), .val (.ref wBALANCE), .unset] [])) _
        refine XS.iloadN X71.here hx rfl (hb hby at_45) rfl ?_
        show Steps p.tables e below (T71.setTop (mkF m 46 #[.val (.int p0), .val (.int p1), .val (.int (1 : Int32)), .val (.int (1 : Int32)), .val (.ref wNO_TOPUP), .val (.ref wBALANCE), .unset] [(.int (1 : Int32))])) _
        refine XS.iconst X71.here hx rfl (hb hby at_46) ?_
        show Steps p.tables e below (T71.setTop (mkF m 47 #[.val (.int p0), .val (.int p1), .val (.int (1 : Int32)), .val (.int (1 : Int32)), .val (.ref wNO_TOPUP), .val (.ref wBALANCE), .unset] [(.int (4 : Int32)), (.int (1 : Int32))])) _
        refine XS.icmpYes X71.here hx rfl (pc0 := 47) (pc' := 59) rfl (hb hby at_47) rfl (feq ((by decide) : ¬ ((1 : Int32) = (4 : Int32)))).2 (by decide) (by decide) ?_
        show Steps p.tables e below (T71.setTop (mkF m 59 #[.val (.int p0), .val (.int p1), .val (.int (1 : Int32)), .val (.int (1 : Int32)), .val (.ref wNO_TOPUP), .val (.ref wBALANCE), .unset] [])) _
        refine XS.iconst X71.here hx rfl (hb hby at_59) ?_
        show Steps p.tables e below (T71.setTop (mkF m 60 #[.val (.int p0), .val (.int p1), .val (.int (1 : Int32)), .val (.int (1 : Int32)), .val (.ref wNO_TOPUP), .val (.ref wBALANCE), .unset] [(.int (0 : Int32))])) _
        refine XS.istore X71.here hx rfl (hb hby at_60) rfl (l' := #[.val (.int p0), .val (.int p1), .val (.int (1 : Int32)), .val (.int (1 : Int32)), .val (.ref wNO_TOPUP), .val (.ref wBALANCE), .val (.int (0 : Int32))]) rfl ?_
        show Steps p.tables e below (T71.setTop (mkF m 62 #[.val (.int p0), .val (.int p1), .val (.int (1 : Int32)), .val (.int (1 : Int32)), .val (.ref wNO_TOPUP), .val (.ref wBALANCE), .val (.int (0 : Int32))] [])) _
        refine XS.aload X71.here hx rfl (hb hby at_62) rfl rfl ?_
        show Steps p.tables e below (T71.setTop (mkF m 64 #[.val (.int p0), .val (.int p1), .val (.int (1 : Int32)), .val (.int (1 : Int32)), .val (.ref wNO_TOPUP), .val (.ref wBALANCE), .val (.int (0 : Int32))] [(.ref wNO_TOPUP)])) _
        refine XS.aload X71.here hx rfl (hb hby at_64) rfl rfl ?_
        exact kt)
      rw [((by rw [f4]) : (f4 wNO_TOPUP wBALANCE wCARD_ERROR wPARTIAL wBALANCE wCREATE wPAYMENT_ERROR wLOAD wNO_TOPUP wORDINARY wBALANCE_ERROR) = (0 : Int32))] at hQ73
      obtain ⟨rfl, N73q, e73⟩ := hQ73
      have N73 := Fr.app N71 N73q
      obtain ⟨fs, hr, hrun, hended, hW, hsame⟩ := X73.leave (v := some (.int (1 : Int32))) (fun h => by rw [Bd.returns] at h; cases h)
      refine ⟨_, _, k74 _ ?_, hrun, hended, _, _, rfl, ?_, ⟨_, rfl⟩, hW, hsame.mono (by decide) (by decide)⟩
      · show Steps p.tables e below (T71.setTop (mkF m 66 #[.val (.int p0), .val (.int p1), .val (.int (1 : Int32)), .val (.int (1 : Int32)), .val (.ref wNO_TOPUP), .val (.ref wBALANCE), .val (.int (0 : Int32))] [(.ref wBALANCE), (.ref wNO_TOPUP)])) _
        refine st73.trans ?_
        show Steps p.tables e below (T73.setTop (mkF m 69 #[.val (.int p0), .val (.int p1), .val (.int (1 : Int32)), .val (.int (1 : Int32)), .val (.ref wNO_TOPUP), .val (.ref wBALANCE), .val (.int (0 : Int32))] [(.int (0 : Int32))])) _
        refine XS.iload X73.here hx rfl (hb hby at_69) rfl ?_
        show Steps p.tables e below (T73.setTop (mkF m 71 #[.val (.int p0), .val (.int p1), .val (.int (1 : Int32)), .val (.int (1 : Int32)), .val (.ref wNO_TOPUP), .val (.ref wBALANCE), .val (.int (0 : Int32))] [(.int (0 : Int32)), (.int (0 : Int32))])) _
        refine XS.icmpNo X73.here hx rfl (hb hby at_71) rfl (teq (rfl : (0 : Int32) = (0 : Int32))).2 ?_
        show Steps p.tables e below (T73.setTop (mkF m 74 #[.val (.int p0), .val (.int p1), .val (.int (1 : Int32)), .val (.int (1 : Int32)), .val (.ref wNO_TOPUP), .val (.ref wBALANCE), .val (.int (0 : Int32))] [])) _
        refine XS.iconst X73.here hx rfl (hb hby at_74) ?_
        show Steps p.tables e below (T73.setTop (mkF m 75 #[.val (.int p0), .val (.int p1), .val (.int (1 : Int32)), .val (.int (1 : Int32)), .val (.ref wNO_TOPUP), .val (.ref wBALANCE), .val (.int (0 : Int32))] [(.int (1 : Int32))])) _
        refine XS.goto X73.here hx rfl (pc0 := 75) (pc' := 79) rfl (hb hby at_75) (by decide) (by decide) ?_
        show Steps p.tables e below (T73.setTop (mkF m 79 #[.val (.int p0), .val (.int p1), .val (.int (1 : Int32)), .val (.int (1 : Int32)), .val (.ref wNO_TOPUP), .val (.ref wBALANCE), .val (.int (0 : Int32))] [(.int (1 : Int32))])) _
        exact retN X73 hx (t := .boolean) Bd.returns (by simp) (hb hby at_79) hr
      · show Q0 Z p0 p1 wCARD_ERROR wPARTIAL wBALANCE wCREATE wPAYMENT_ERROR wLOAD wNO_TOPUP wORDINARY wBALANCE_ERROR h0 n0 _ T73.heap _
        rw [e73]
        exact ⟨rfl, N73⟩
    · subst hv62
      obtain ⟨_, _, ⟨T75, L75, k75, n75⟩, -, X75, ⟨Lc75, hQ75, l75, y75, z75⟩, st75⟩ := Jvm.LawKit.callS X0 hx (y := (⟨"com/example/cardstand/cardstand/scenario/CardScenarioFailsPinLaw", "scenario", "(I)Lcom/example/cardstand/cardstand/scenario/CardScenario;"⟩ : MethodName)) hown (mvT hZ (hw _ (List.mem_of_getElem? (i := 1) rfl))) (mvT hZ (hw _ (List.mem_of_getElem? (i := 2) rfl))) (mvT hZ (hw _ (List.mem_of_getElem? (i := 3) rfl))) (mvT hZ (hw _ (List.mem_of_getElem? (i := 4) rfl))) (by decide) (backOf (W := 0) (rm1 l Z a0 hw [] (1 : Int32) wCARD_ERROR wPARTIAL wBALANCE wCREATE wPAYMENT_ERROR wLOAD wNO_TOPUP wORDINARY wBALANCE_ERROR h0 n0 Z0 W0 ) hZ (hw _ (List.mem_of_getElem? (i := 4) rfl)) (hw _ (List.mem_of_getElem? (i := 3) rfl)) (by decide) (by decide)) (g := (mkF m 16 #[.val (.int p0), .val (.int p1), .val (.int (1 : Int32)), .val (.int (2 : Int32)), .unset, .unset, .unset] [(.int (1 : Int32))])) rfl (by rw [hml]; rfl) (argsL := [(.int (1 : Int32))]) (rest := []) (lenOf pd_0 rfl) rfl (by show 2 * 0 + _ ≤ _; exact Nat.le_of_eq rfl) (hb hby at_16) (fun _ _ => ⟨rfl, e0, (by decide : 0 + 0 ≤ _), (by decide : 0 + 0 ≤ _)⟩)
      dsimp only [Pt.U, Pt.locs, Pt.cells, Pt.slots] at X75 l75 y75 z75 st75 hQ75
      subst l75 y75 z75
      unfold Q1 at hQ75
      have k76 : ∀ t, Steps p.tables e below (s₁.setTop (mkF m 16 #[.val (.int p0), .val (.int p1), .val (.int (1 : Int32)), .val (.int (2 : Int32)), .unset, .unset, .unset] [(.int (1 : Int32))])) t → Steps p.tables e below (s₁.setTop (entryFrame m #[(.int p0), (.int p1)] maxLocals)) t := fun t kt => k61 t (by
        show Steps p.tables e below (s₁.setTop (mkF m 15 #[.val (.int p0), .val (.int p1), .val (.int (1 : Int32)), .val (.int (2 : Int32)), .unset, .unset, .unset] [])) _
        refine XS.iloadN X0.here hx rfl (hb hby at_15) rfl ?_
        exact kt)
      rw [((by rw [f1, if_neg ((by decide) : ¬ ((1 : Int32) = (0 : Int32))), if_pos (rfl : (1 : Int32) = (1 : Int32))]) : (f1 (1 : Int32) wCARD_ERROR wPARTIAL wBALANCE wCREATE wPAYMENT_ERROR wLOAD wNO_TOPUP wORDINARY wBALANCE_ERROR) = wNO_TOPUP)] at hQ75
      obtain ⟨rfl, N75q, e75⟩ := hQ75
      have N75 := Fr.app N0 N75q
      obtain ⟨_, _, ⟨T77, L77, k77, n77⟩, -, X77, ⟨Lc77, hQ77, l77, y77, z77⟩, st77⟩ := Jvm.LawKit.callS X75 hx (y := (⟨"com/example/cardstand/cardstand/scenario/CardScenarioFailsPinLaw", "operation", "(I)Lcom/example/cardstand/cardstand/scenario/CardScenario$Operation;"⟩ : MethodName)) hown (mvT hZ (hw _ (List.mem_of_getElem? (i := 8) rfl))) (mvT hZ (hw _ (List.mem_of_getElem? (i := 9) rfl))) (mvT hZ (hw _ (List.mem_of_getElem? (i := 3) rfl))) (mvT hZ (hw _ (List.mem_of_getElem? (i := 10) rfl))) (by decide) (backOf (W := 0) (rm2 l Z a0 hw [] (2 : Int32) wCARD_ERROR wPARTIAL wBALANCE wCREATE wPAYMENT_ERROR wLOAD wNO_TOPUP wORDINARY wBALANCE_ERROR h0 n0 Z0 W0 ) hZ (hw _ (List.mem_of_getElem? (i := 10) rfl)) (hw _ (List.mem_of_getElem? (i := 3) rfl)) (by decide) (by decide)) (g := (mkF m 22 #[.val (.int p0), .val (.int p1), .val (.int (1 : Int32)), .val (.int (2 : Int32)), .val (.ref wNO_TOPUP), .unset, .unset] [(.int (2 : Int32))])) rfl (by rw [hml]; rfl) (argsL := [(.int (2 : Int32))]) (rest := []) (lenOf pd_1 rfl) rfl (by show 2 * 0 + _ ≤ _; exact Nat.le_of_eq rfl) (hb hby at_22) (fun _ _ => ⟨rfl, e75, (by decide : 0 + 0 ≤ _), (by decide : 0 + 0 ≤ _)⟩)
      dsimp only [Pt.U, Pt.locs, Pt.cells, Pt.slots] at X77 l77 y77 z77 st77 hQ77
      subst l77 y77 z77
      unfold Q2 at hQ77
      have k78 : ∀ t, Steps p.tables e below (T75.setTop (mkF m 22 #[.val (.int p0), .val (.int p1), .val (.int (1 : Int32)), .val (.int (2 : Int32)), .val (.ref wNO_TOPUP), .unset, .unset] [(.int (2 : Int32))])) t → Steps p.tables e below (s₁.setTop (entryFrame m #[(.int p0), (.int p1)] maxLocals)) t := fun t kt => k76 t (by
        show Steps p.tables e below (s₁.setTop (mkF m 16 #[.val (.int p0), .val (.int p1), .val (.int (1 : Int32)), .val (.int (2 : Int32)), .unset, .unset, .unset] [(.int (1 : Int32))])) _
        refine st75 _ ?_
        show Steps p.tables e below (T75.setTop (mkF m 19 #[.val (.int p0), .val (.int p1), .val (.int (1 : Int32)), .val (.int (2 : Int32)), .unset, .unset, .unset] [(.ref wNO_TOPUP)])) _
        refine XS.astore X75.here hx rfl (hb hby at_19) rfl rfl (l' := #[.val (.int p0), .val (.int p1), .val (.int (1 : Int32)), .val (.int (2 : Int32)), .val (.ref wNO_TOPUP), .unset, .unset]) rfl ?_
        show Steps p.tables e below (T75.setTop (mkF m 21 #[.val (.int p0), .val (.int p1), .val (.int (1 : Int32)), .val (.int (2 : Int32)), .val (.ref wNO_TOPUP), .unset, .unset] [])) _
        refine XS.iloadN X75.here hx rfl (hb hby at_21) rfl ?_
        exact kt)
      rw [((by rw [f2, if_neg ((by decide) : ¬ ((2 : Int32) = (0 : Int32))), if_neg ((by decide) : ¬ ((2 : Int32) = (1 : Int32))), if_pos (rfl : (2 : Int32) = (2 : Int32))]) : (f2 (2 : Int32) wCARD_ERROR wPARTIAL wBALANCE wCREATE wPAYMENT_ERROR wLOAD wNO_TOPUP wORDINARY wBALANCE_ERROR) = (.ref wLOAD))] at hQ77
      obtain ⟨rfl, N77q, e77⟩ := hQ77
      have N77 := Fr.app N75 N77q
      obtain ⟨cq79, kq79, q79a, q79b, q79c⟩ := isOf hZ e77 ENO_TOPUP
      obtain ⟨_, _, ⟨T79, L79, k79, n79⟩, -, X79, ⟨Lc79, hQ79, l79, y79, z79⟩, st79⟩ := X77.virtualBack hx (y := (⟨"com/example/cardstand/cardstand/scenario/CardScenario", "fails", "(Lcom/example/cardstand/cardstand/scenario/CardScenario$Operation;)Z"⟩ : MethodName)) (z := (⟨"com/example/cardstand/cardstand/scenario/CardScenario", "fails", "(Lcom/example/cardstand/cardstand/scenario/CardScenario$Operation;)Z"⟩ : MethodName)) hown (mvT hZ (hw _ (List.mem_of_getElem? (i := 11) rfl))) (mvT hZ (hw _ (List.mem_of_getElem? (i := 12) rfl))) (notFace_of_selects (args := #[]) (mvT hZ (hw _ (List.mem_of_getElem? (i := 14) rfl)))) (mvT hZ (hw _ (List.mem_of_getElem? (i := 14) rfl))) (mvT hZ (hw _ (List.mem_of_getElem? (i := 13) rfl))) (by decide) (backOf (W := 0) (rm4 l Z a0 hw [] wNO_TOPUP wLOAD wCARD_ERROR wPARTIAL wBALANCE wCREATE wPAYMENT_ERROR wLOAD wNO_TOPUP wORDINARY wBALANCE_ERROR h0 n0 Z0 W0 FNO_TOPUP_failing) hZ (hw _ (List.mem_of_getElem? (i := 15) rfl)) (hw _ (List.mem_of_getElem? (i := 6) rfl)) (by decide) (by decide)) q79a q79c (g := (mkF m 66 #[.val (.int p0), .val (.int p1), .val (.int (1 : Int32)), .val (.int (2 : Int32)), .val (.ref wNO_TOPUP), .val (.ref wLOAD), .val (.int (0 : Int32))] [(.ref wLOAD), (.ref wNO_TOPUP)])) rfl (by rw [hml]; rfl) (Steps.refl _) (argsL := [(.ref wLOAD)]) (rest := []) (lenOf pd_2 rfl) rfl (by show 2 * 0 + _ ≤ _; exact Nat.le_of_eq rfl) (hb hby at_66) (fun _ _ => ⟨rfl, e77, (by decide : 0 + 0 ≤ _), (by decide : 0 + 0 ≤ _)⟩)
      dsimp only [Pt.U, Pt.locs, Pt.cells, Pt.slots] at X79 l79 y79 z79 st79 hQ79
      subst l79 y79 z79
      unfold Q4 at hQ79
      have k80 : ∀ t, Steps p.tables e below (T77.setTop (mkF m 66 #[.val (.int p0), .val (.int p1), .val (.int (1 : Int32)), .val (.int (2 : Int32)), .val (.ref wNO_TOPUP), .val (.ref wLOAD), .val (.int (0 : Int32))] [(.ref wLOAD), (.ref wNO_TOPUP)])) t → Steps p.tables e below (s₁.setTop (entryFrame m #[(.int p0), (.int p1)] maxLocals)) t := fun t kt => k78 t (by
        show Steps p.tables e below (T75.setTop (mkF m 22 #[.val (.int p0), .val (.int p1), .val (.int (1 : Int32)), .val (.int (2 : Int32)), .val (.ref wNO_TOPUP), .unset, .unset] [(.int (2 : Int32))])) _
        refine st77 _ ?_
        show Steps p.tables e below (T77.setTop (mkF m 25 #[.val (.int p0), .val (.int p1), .val (.int (1 : Int32)), .val (.int (2 : Int32)), .val (.ref wNO_TOPUP), .unset, .unset] [(.ref wLOAD)])) _
        refine XS.astore X77.here hx rfl (hb hby at_25) rfl rfl (l' := #[.val (.int p0), .val (.int p1), .val (.int (1 : Int32)), .val (.int (2 : Int32)), .val (.ref wNO_TOPUP), .val (.ref wLOAD), .unset]) rfl ?_
        show Steps p.tables e below (T77.setTop (mkF m 27 #[.val (.int p0), .val (.int p1), .val (.int (1 : Int32)), .val (.int (2 : Int32)), .val (.ref wNO_TOPUP), .val (.ref wLOAD), .unset] [])) _
        refine XS.iloadN X77.here hx rfl (hb hby at_27) rfl ?_
        show Steps p.tables e below (T77.setTop (mkF m 28 #[.val (.int p0), .val (.int p1), .val (.int (1 : Int32)), .val (.int (2 : Int32)), .val (.ref wNO_TOPUP), .val (.ref wLOAD), .unset] [(.int (1 : Int32))])) _
        refine XS.ifYes X77.here hx rfl (pc0 := 28) (pc' := 35) rfl (hb hby at_28) rfl ((if0 _ _).trans (feq ((by decide) : ¬ ((1 : Int32) = (0 : Int32)))).2) (by decide) (by decide) ?_
        show Steps p.tables e below (T77.setTop (mkF m 35 #[.val (.int p0), .val (.int p1), .val (.int (1 : Int32)), .val (.int (2 : Int32)), .val (.ref wNO_TOPUP), .val (.ref wLOAD), .unset] [])) _
        refine XS.iloadN X77.here hx rfl (hb hby at_35) rfl ?_
        show Steps p.tables e below (T77.setTop (mkF m 36 #[.val (.int p0), .val (.int p1), .val (.int (1 : Int32)), .val (.int (2 : Int32)), .val (.ref wNO_TOPUP), .val (.ref wLOAD), .unset] [(.int (1 : Int32))])) _
        refine XS.iconst X77.here hx rfl (hb hby at_36) ?_
        show Steps p.tables e below (T77.setTop (mkF m 37 #[.val (.int p0), .val (.int p1), .val (.int (1 : Int32)), .val (.int (2 : Int32)), .val (.ref wNO_TOPUP), .val (.ref wLOAD), .unset] [(.int (3 : Int32)), (.int (1 : Int32))])) _
        refine XS.icmpYes X77.here hx rfl (pc0 := 37) (pc' := 45) rfl (hb hby at_37) rfl (feq ((by decide) : ¬ ((1 : Int32) = (3 : Int32)))).2 (by decide) (by decide) ?_
        show Steps p.tables e below (T77.setTop (mkF m 45 #[.val (.int p0), .val (.int p1), .val (.int (1 : Int32)), .val (.int (2 : Int32)), .val (.ref wNO_TOPUP), .val (.ref wLOAD), .unset] [])) _
        refine XS.iloadN X77.here hx rfl (hb hby at_45) rfl ?_
        show Steps p.tables e below (T77.setTop (mkF m 46 #[.val (.int p0), .val (.int p1), .val (.int (1 : Int32)), .val (.int (2 : Int32)), .val (.ref wNO_TOPUP), .val (.ref wLOAD), .unset] [(.int (1 : Int32))])) _
        refine XS.iconst X77.here hx rfl (hb hby at_46) ?_
        show Steps p.tables e below (T77.setTop (mkF m 47 #[.val (.int p0), .val (.int p1), .val (.int (1 : Int32)), .val (.int (2 : Int32)), .val (.ref wNO_TOPUP), .val (.ref wLOAD), .unset] [(.int (4 : Int32)), (.int (1 : Int32))])) _
        refine XS.icmpYes X77.here hx rfl (pc0 := 47) (pc' := 59) rfl (hb hby at_47) rfl (feq ((by decide) : ¬ ((1 : Int32) = (4 : Int32)))).2 (by decide) (by decide) ?_
        show Steps p.tables e below (T77.setTop (mkF m 59 #[.val (.int p0), .val (.int p1), .val (.int (1 : Int32)), .val (.int (2 : Int32)), .val (.ref wNO_TOPUP), .val (.ref wLOAD), .unset] [])) _
        refine XS.iconst X77.here hx rfl (hb hby at_59) ?_
        show Steps p.tables e below (T77.setTop (mkF m 60 #[.val (.int p0), .val (.int p1), .val (.int (1 : Int32)), .val (.int (2 : Int32)), .val (.ref wNO_TOPUP), .val (.ref wLOAD), .unset] [(.int (0 : Int32))])) _
        refine XS.istore X77.here hx rfl (hb hby at_60) rfl (l' := #[.val (.int p0), .val (.int p1), .val (.int (1 : Int32)), .val (.int (2 : Int32)), .val (.ref wNO_TOPUP), .val (.ref wLOAD), .val (.int (0 : Int32))]) rfl ?_
        show Steps p.tables e below (T77.setTop (mkF m 62 #[.val (.int p0), .val (.int p1), .val (.int (1 : Int32)), .val (.int (2 : Int32)), .val (.ref wNO_TOPUP), .val (.ref wLOAD), .val (.int (0 : Int32))] [])) _
        refine XS.aload X77.here hx rfl (hb hby at_62) rfl rfl ?_
        show Steps p.tables e below (T77.setTop (mkF m 64 #[.val (.int p0), .val (.int p1), .val (.int (1 : Int32)), .val (.int (2 : Int32)), .val (.ref wNO_TOPUP), .val (.ref wLOAD), .val (.int (0 : Int32))] [(.ref wNO_TOPUP)])) _
        refine XS.aload X77.here hx rfl (hb hby at_64) rfl rfl ?_
        exact kt)
      rw [((by rw [f4]) : (f4 wNO_TOPUP wLOAD wCARD_ERROR wPARTIAL wBALANCE wCREATE wPAYMENT_ERROR wLOAD wNO_TOPUP wORDINARY wBALANCE_ERROR) = (0 : Int32))] at hQ79
      obtain ⟨rfl, N79q, e79⟩ := hQ79
      have N79 := Fr.app N77 N79q
      obtain ⟨fs, hr, hrun, hended, hW, hsame⟩ := X79.leave (v := some (.int (1 : Int32))) (fun h => by rw [Bd.returns] at h; cases h)
      refine ⟨_, _, k80 _ ?_, hrun, hended, _, _, rfl, ?_, ⟨_, rfl⟩, hW, hsame.mono (by decide) (by decide)⟩
      · show Steps p.tables e below (T77.setTop (mkF m 66 #[.val (.int p0), .val (.int p1), .val (.int (1 : Int32)), .val (.int (2 : Int32)), .val (.ref wNO_TOPUP), .val (.ref wLOAD), .val (.int (0 : Int32))] [(.ref wLOAD), (.ref wNO_TOPUP)])) _
        refine st79.trans ?_
        show Steps p.tables e below (T79.setTop (mkF m 69 #[.val (.int p0), .val (.int p1), .val (.int (1 : Int32)), .val (.int (2 : Int32)), .val (.ref wNO_TOPUP), .val (.ref wLOAD), .val (.int (0 : Int32))] [(.int (0 : Int32))])) _
        refine XS.iload X79.here hx rfl (hb hby at_69) rfl ?_
        show Steps p.tables e below (T79.setTop (mkF m 71 #[.val (.int p0), .val (.int p1), .val (.int (1 : Int32)), .val (.int (2 : Int32)), .val (.ref wNO_TOPUP), .val (.ref wLOAD), .val (.int (0 : Int32))] [(.int (0 : Int32)), (.int (0 : Int32))])) _
        refine XS.icmpNo X79.here hx rfl (hb hby at_71) rfl (teq (rfl : (0 : Int32) = (0 : Int32))).2 ?_
        show Steps p.tables e below (T79.setTop (mkF m 74 #[.val (.int p0), .val (.int p1), .val (.int (1 : Int32)), .val (.int (2 : Int32)), .val (.ref wNO_TOPUP), .val (.ref wLOAD), .val (.int (0 : Int32))] [])) _
        refine XS.iconst X79.here hx rfl (hb hby at_74) ?_
        show Steps p.tables e below (T79.setTop (mkF m 75 #[.val (.int p0), .val (.int p1), .val (.int (1 : Int32)), .val (.int (2 : Int32)), .val (.ref wNO_TOPUP), .val (.ref wLOAD), .val (.int (0 : Int32))] [(.int (1 : Int32))])) _
        refine XS.goto X79.here hx rfl (pc0 := 75) (pc' := 79) rfl (hb hby at_75) (by decide) (by decide) ?_
        show Steps p.tables e below (T79.setTop (mkF m 79 #[.val (.int p0), .val (.int p1), .val (.int (1 : Int32)), .val (.int (2 : Int32)), .val (.ref wNO_TOPUP), .val (.ref wLOAD), .val (.int (0 : Int32))] [(.int (1 : Int32))])) _
        exact retN X79 hx (t := .boolean) Bd.returns (by simp) (hb hby at_79) hr
      · show Q0 Z p0 p1 wCARD_ERROR wPARTIAL wBALANCE wCREATE wPAYMENT_ERROR wLOAD wNO_TOPUP wORDINARY wBALANCE_ERROR h0 n0 _ T79.heap _
        rw [e79]
        exact ⟨rfl, N79⟩
    · subst hv62
      obtain ⟨_, _, ⟨T81, L81, k81, n81⟩, -, X81, ⟨Lc81, hQ81, l81, y81, z81⟩, st81⟩ := Jvm.LawKit.callS X0 hx (y := (⟨"com/example/cardstand/cardstand/scenario/CardScenarioFailsPinLaw", "scenario", "(I)Lcom/example/cardstand/cardstand/scenario/CardScenario;"⟩ : MethodName)) hown (mvT hZ (hw _ (List.mem_of_getElem? (i := 1) rfl))) (mvT hZ (hw _ (List.mem_of_getElem? (i := 2) rfl))) (mvT hZ (hw _ (List.mem_of_getElem? (i := 3) rfl))) (mvT hZ (hw _ (List.mem_of_getElem? (i := 4) rfl))) (by decide) (backOf (W := 0) (rm1 l Z a0 hw [] (1 : Int32) wCARD_ERROR wPARTIAL wBALANCE wCREATE wPAYMENT_ERROR wLOAD wNO_TOPUP wORDINARY wBALANCE_ERROR h0 n0 Z0 W0 ) hZ (hw _ (List.mem_of_getElem? (i := 4) rfl)) (hw _ (List.mem_of_getElem? (i := 3) rfl)) (by decide) (by decide)) (g := (mkF m 16 #[.val (.int p0), .val (.int p1), .val (.int (1 : Int32)), .val (.int (3 : Int32)), .unset, .unset, .unset] [(.int (1 : Int32))])) rfl (by rw [hml]; rfl) (argsL := [(.int (1 : Int32))]) (rest := []) (lenOf pd_0 rfl) rfl (by show 2 * 0 + _ ≤ _; exact Nat.le_of_eq rfl) (hb hby at_16) (fun _ _ => ⟨rfl, e0, (by decide : 0 + 0 ≤ _), (by decide : 0 + 0 ≤ _)⟩)
      dsimp only [Pt.U, Pt.locs, Pt.cells, Pt.slots] at X81 l81 y81 z81 st81 hQ81
      subst l81 y81 z81
      unfold Q1 at hQ81
      have k82 : ∀ t, Steps p.tables e below (s₁.setTop (mkF m 16 #[.val (.int p0), .val (.int p1), .val (.int (1 : Int32)), .val (.int (3 : Int32)), .unset, .unset, .unset] [(.int (1 : Int32))])) t → Steps p.tables e below (s₁.setTop (entryFrame m #[(.int p0), (.int p1)] maxLocals)) t := fun t kt => k61 t (by
        show Steps p.tables e below (s₁.setTop (mkF m 15 #[.val (.int p0), .val (.int p1), .val (.int (1 : Int32)), .val (.int (3 : Int32)), .unset, .unset, .unset] [])) _
        refine XS.iloadN X0.here hx rfl (hb hby at_15) rfl ?_
        exact kt)
      rw [((by rw [f1, if_neg ((by decide) : ¬ ((1 : Int32) = (0 : Int32))), if_pos (rfl : (1 : Int32) = (1 : Int32))]) : (f1 (1 : Int32) wCARD_ERROR wPARTIAL wBALANCE wCREATE wPAYMENT_ERROR wLOAD wNO_TOPUP wORDINARY wBALANCE_ERROR) = wNO_TOPUP)] at hQ81
      obtain ⟨rfl, N81q, e81⟩ := hQ81
      have N81 := Fr.app N0 N81q
      obtain ⟨_, _, ⟨T83, L83, k83, n83⟩, -, X83, ⟨Lc83, hQ83, l83, y83, z83⟩, st83⟩ := Jvm.LawKit.callS X81 hx (y := (⟨"com/example/cardstand/cardstand/scenario/CardScenarioFailsPinLaw", "operation", "(I)Lcom/example/cardstand/cardstand/scenario/CardScenario$Operation;"⟩ : MethodName)) hown (mvT hZ (hw _ (List.mem_of_getElem? (i := 8) rfl))) (mvT hZ (hw _ (List.mem_of_getElem? (i := 9) rfl))) (mvT hZ (hw _ (List.mem_of_getElem? (i := 3) rfl))) (mvT hZ (hw _ (List.mem_of_getElem? (i := 10) rfl))) (by decide) (backOf (W := 0) (rm2 l Z a0 hw [] (3 : Int32) wCARD_ERROR wPARTIAL wBALANCE wCREATE wPAYMENT_ERROR wLOAD wNO_TOPUP wORDINARY wBALANCE_ERROR h0 n0 Z0 W0 ) hZ (hw _ (List.mem_of_getElem? (i := 10) rfl)) (hw _ (List.mem_of_getElem? (i := 3) rfl)) (by decide) (by decide)) (g := (mkF m 22 #[.val (.int p0), .val (.int p1), .val (.int (1 : Int32)), .val (.int (3 : Int32)), .val (.ref wNO_TOPUP), .unset, .unset] [(.int (3 : Int32))])) rfl (by rw [hml]; rfl) (argsL := [(.int (3 : Int32))]) (rest := []) (lenOf pd_1 rfl) rfl (by show 2 * 0 + _ ≤ _; exact Nat.le_of_eq rfl) (hb hby at_22) (fun _ _ => ⟨rfl, e81, (by decide : 0 + 0 ≤ _), (by decide : 0 + 0 ≤ _)⟩)
      dsimp only [Pt.U, Pt.locs, Pt.cells, Pt.slots] at X83 l83 y83 z83 st83 hQ83
      subst l83 y83 z83
      unfold Q2 at hQ83
      have k84 : ∀ t, Steps p.tables e below (T81.setTop (mkF m 22 #[.val (.int p0), .val (.int p1), .val (.int (1 : Int32)), .val (.int (3 : Int32)), .val (.ref wNO_TOPUP), .unset, .unset] [(.int (3 : Int32))])) t → Steps p.tables e below (s₁.setTop (entryFrame m #[(.int p0), (.int p1)] maxLocals)) t := fun t kt => k82 t (by
        show Steps p.tables e below (s₁.setTop (mkF m 16 #[.val (.int p0), .val (.int p1), .val (.int (1 : Int32)), .val (.int (3 : Int32)), .unset, .unset, .unset] [(.int (1 : Int32))])) _
        refine st81 _ ?_
        show Steps p.tables e below (T81.setTop (mkF m 19 #[.val (.int p0), .val (.int p1), .val (.int (1 : Int32)), .val (.int (3 : Int32)), .unset, .unset, .unset] [(.ref wNO_TOPUP)])) _
        refine XS.astore X81.here hx rfl (hb hby at_19) rfl rfl (l' := #[.val (.int p0), .val (.int p1), .val (.int (1 : Int32)), .val (.int (3 : Int32)), .val (.ref wNO_TOPUP), .unset, .unset]) rfl ?_
        show Steps p.tables e below (T81.setTop (mkF m 21 #[.val (.int p0), .val (.int p1), .val (.int (1 : Int32)), .val (.int (3 : Int32)), .val (.ref wNO_TOPUP), .unset, .unset] [])) _
        refine XS.iloadN X81.here hx rfl (hb hby at_21) rfl ?_
        exact kt)
      rw [((by rw [f2, if_neg ((by decide) : ¬ ((3 : Int32) = (0 : Int32))), if_neg ((by decide) : ¬ ((3 : Int32) = (1 : Int32))), if_neg ((by decide) : ¬ ((3 : Int32) = (2 : Int32)))]) : (f2 (3 : Int32) wCARD_ERROR wPARTIAL wBALANCE wCREATE wPAYMENT_ERROR wLOAD wNO_TOPUP wORDINARY wBALANCE_ERROR) = .null)] at hQ83
      obtain ⟨rfl, N83q, e83⟩ := hQ83
      have N83 := Fr.app N81 N83q
      obtain ⟨cq85, kq85, q85a, q85b, q85c⟩ := isOf hZ e83 ENO_TOPUP
      obtain ⟨_, _, ⟨T85, L85, k85, n85⟩, -, X85, ⟨Lc85, hQ85, l85, y85, z85⟩, st85⟩ := X83.virtualBack hx (y := (⟨"com/example/cardstand/cardstand/scenario/CardScenario", "fails", "(Lcom/example/cardstand/cardstand/scenario/CardScenario$Operation;)Z"⟩ : MethodName)) (z := (⟨"com/example/cardstand/cardstand/scenario/CardScenario", "fails", "(Lcom/example/cardstand/cardstand/scenario/CardScenario$Operation;)Z"⟩ : MethodName)) hown (mvT hZ (hw _ (List.mem_of_getElem? (i := 11) rfl))) (mvT hZ (hw _ (List.mem_of_getElem? (i := 12) rfl))) (notFace_of_selects (args := #[]) (mvT hZ (hw _ (List.mem_of_getElem? (i := 14) rfl)))) (mvT hZ (hw _ (List.mem_of_getElem? (i := 14) rfl))) (mvT hZ (hw _ (List.mem_of_getElem? (i := 13) rfl))) (by decide) (backOf (W := 0) (rm5 l Z a0 hw [] wNO_TOPUP wCARD_ERROR wPARTIAL wBALANCE wCREATE wPAYMENT_ERROR wLOAD wNO_TOPUP wORDINARY wBALANCE_ERROR h0 n0 Z0 W0 ) hZ (hw _ (List.mem_of_getElem? (i := 15) rfl)) (hw _ (List.mem_of_getElem? (i := 6) rfl)) (by decide) (by decide)) q85a q85c (g := (mkF m 66 #[.val (.int p0), .val (.int p1), .val (.int (1 : Int32)), .val (.int (3 : Int32)), .val (.ref wNO_TOPUP), .val .null, .val (.int (0 : Int32))] [.null, (.ref wNO_TOPUP)])) rfl (by rw [hml]; rfl) (Steps.refl _) (argsL := [.null]) (rest := []) (lenOf pd_2 rfl) rfl (by show 2 * 0 + _ ≤ _; exact Nat.le_of_eq rfl) (hb hby at_66) (fun _ _ => ⟨rfl, e83, (by decide : 0 + 0 ≤ _), (by decide : 0 + 0 ≤ _)⟩)
      dsimp only [Pt.U, Pt.locs, Pt.cells, Pt.slots] at X85 l85 y85 z85 st85 hQ85
      subst l85 y85 z85
      unfold Q5 at hQ85
      have k86 : ∀ t, Steps p.tables e below (T83.setTop (mkF m 66 #[.val (.int p0), .val (.int p1), .val (.int (1 : Int32)), .val (.int (3 : Int32)), .val (.ref wNO_TOPUP), .val .null, .val (.int (0 : Int32))] [.null, (.ref wNO_TOPUP)])) t → Steps p.tables e below (s₁.setTop (entryFrame m #[(.int p0), (.int p1)] maxLocals)) t := fun t kt => k84 t (by
        show Steps p.tables e below (T81.setTop (mkF m 22 #[.val (.int p0), .val (.int p1), .val (.int (1 : Int32)), .val (.int (3 : Int32)), .val (.ref wNO_TOPUP), .unset, .unset] [(.int (3 : Int32))])) _
        refine st83 _ ?_
        show Steps p.tables e below (T83.setTop (mkF m 25 #[.val (.int p0), .val (.int p1), .val (.int (1 : Int32)), .val (.int (3 : Int32)), .val (.ref wNO_TOPUP), .unset, .unset] [.null])) _
        refine XS.astore X83.here hx rfl (hb hby at_25) rfl rfl (l' := #[.val (.int p0), .val (.int p1), .val (.int (1 : Int32)), .val (.int (3 : Int32)), .val (.ref wNO_TOPUP), .val .null, .unset]) rfl ?_
        show Steps p.tables e below (T83.setTop (mkF m 27 #[.val (.int p0), .val (.int p1), .val (.int (1 : Int32)), .val (.int (3 : Int32)), .val (.ref wNO_TOPUP), .val .null, .unset] [])) _
        refine XS.iloadN X83.here hx rfl (hb hby at_27) rfl ?_
        show Steps p.tables e below (T83.setTop (mkF m 28 #[.val (.int p0), .val (.int p1), .val (.int (1 : Int32)), .val (.int (3 : Int32)), .val (.ref wNO_TOPUP), .val .null, .unset] [(.int (1 : Int32))])) _
        refine XS.ifYes X83.here hx rfl (pc0 := 28) (pc' := 35) rfl (hb hby at_28) rfl ((if0 _ _).trans (feq ((by decide) : ¬ ((1 : Int32) = (0 : Int32)))).2) (by decide) (by decide) ?_
        show Steps p.tables e below (T83.setTop (mkF m 35 #[.val (.int p0), .val (.int p1), .val (.int (1 : Int32)), .val (.int (3 : Int32)), .val (.ref wNO_TOPUP), .val .null, .unset] [])) _
        refine XS.iloadN X83.here hx rfl (hb hby at_35) rfl ?_
        show Steps p.tables e below (T83.setTop (mkF m 36 #[.val (.int p0), .val (.int p1), .val (.int (1 : Int32)), .val (.int (3 : Int32)), .val (.ref wNO_TOPUP), .val .null, .unset] [(.int (1 : Int32))])) _
        refine XS.iconst X83.here hx rfl (hb hby at_36) ?_
        show Steps p.tables e below (T83.setTop (mkF m 37 #[.val (.int p0), .val (.int p1), .val (.int (1 : Int32)), .val (.int (3 : Int32)), .val (.ref wNO_TOPUP), .val .null, .unset] [(.int (3 : Int32)), (.int (1 : Int32))])) _
        refine XS.icmpYes X83.here hx rfl (pc0 := 37) (pc' := 45) rfl (hb hby at_37) rfl (feq ((by decide) : ¬ ((1 : Int32) = (3 : Int32)))).2 (by decide) (by decide) ?_
        show Steps p.tables e below (T83.setTop (mkF m 45 #[.val (.int p0), .val (.int p1), .val (.int (1 : Int32)), .val (.int (3 : Int32)), .val (.ref wNO_TOPUP), .val .null, .unset] [])) _
        refine XS.iloadN X83.here hx rfl (hb hby at_45) rfl ?_
        show Steps p.tables e below (T83.setTop (mkF m 46 #[.val (.int p0), .val (.int p1), .val (.int (1 : Int32)), .val (.int (3 : Int32)), .val (.ref wNO_TOPUP), .val .null, .unset] [(.int (1 : Int32))])) _
        refine XS.iconst X83.here hx rfl (hb hby at_46) ?_
        show Steps p.tables e below (T83.setTop (mkF m 47 #[.val (.int p0), .val (.int p1), .val (.int (1 : Int32)), .val (.int (3 : Int32)), .val (.ref wNO_TOPUP), .val .null, .unset] [(.int (4 : Int32)), (.int (1 : Int32))])) _
        refine XS.icmpYes X83.here hx rfl (pc0 := 47) (pc' := 59) rfl (hb hby at_47) rfl (feq ((by decide) : ¬ ((1 : Int32) = (4 : Int32)))).2 (by decide) (by decide) ?_
        show Steps p.tables e below (T83.setTop (mkF m 59 #[.val (.int p0), .val (.int p1), .val (.int (1 : Int32)), .val (.int (3 : Int32)), .val (.ref wNO_TOPUP), .val .null, .unset] [])) _
        refine XS.iconst X83.here hx rfl (hb hby at_59) ?_
        show Steps p.tables e below (T83.setTop (mkF m 60 #[.val (.int p0), .val (.int p1), .val (.int (1 : Int32)), .val (.int (3 : Int32)), .val (.ref wNO_TOPUP), .val .null, .unset] [(.int (0 : Int32))])) _
        refine XS.istore X83.here hx rfl (hb hby at_60) rfl (l' := #[.val (.int p0), .val (.int p1), .val (.int (1 : Int32)), .val (.int (3 : Int32)), .val (.ref wNO_TOPUP), .val .null, .val (.int (0 : Int32))]) rfl ?_
        show Steps p.tables e below (T83.setTop (mkF m 62 #[.val (.int p0), .val (.int p1), .val (.int (1 : Int32)), .val (.int (3 : Int32)), .val (.ref wNO_TOPUP), .val .null, .val (.int (0 : Int32))] [])) _
        refine XS.aload X83.here hx rfl (hb hby at_62) rfl rfl ?_
        show Steps p.tables e below (T83.setTop (mkF m 64 #[.val (.int p0), .val (.int p1), .val (.int (1 : Int32)), .val (.int (3 : Int32)), .val (.ref wNO_TOPUP), .val .null, .val (.int (0 : Int32))] [(.ref wNO_TOPUP)])) _
        refine XS.aload X83.here hx rfl (hb hby at_64) rfl rfl ?_
        exact kt)
      rw [((by rw [f5]) : (f5 wNO_TOPUP wCARD_ERROR wPARTIAL wBALANCE wCREATE wPAYMENT_ERROR wLOAD wNO_TOPUP wORDINARY wBALANCE_ERROR) = (0 : Int32))] at hQ85
      obtain ⟨rfl, N85q, e85⟩ := hQ85
      have N85 := Fr.app N83 N85q
      obtain ⟨fs, hr, hrun, hended, hW, hsame⟩ := X85.leave (v := some (.int (1 : Int32))) (fun h => by rw [Bd.returns] at h; cases h)
      refine ⟨_, _, k86 _ ?_, hrun, hended, _, _, rfl, ?_, ⟨_, rfl⟩, hW, hsame.mono (by decide) (by decide)⟩
      · show Steps p.tables e below (T83.setTop (mkF m 66 #[.val (.int p0), .val (.int p1), .val (.int (1 : Int32)), .val (.int (3 : Int32)), .val (.ref wNO_TOPUP), .val .null, .val (.int (0 : Int32))] [.null, (.ref wNO_TOPUP)])) _
        refine st85.trans ?_
        show Steps p.tables e below (T85.setTop (mkF m 69 #[.val (.int p0), .val (.int p1), .val (.int (1 : Int32)), .val (.int (3 : Int32)), .val (.ref wNO_TOPUP), .val .null, .val (.int (0 : Int32))] [(.int (0 : Int32))])) _
        refine XS.iload X85.here hx rfl (hb hby at_69) rfl ?_
        show Steps p.tables e below (T85.setTop (mkF m 71 #[.val (.int p0), .val (.int p1), .val (.int (1 : Int32)), .val (.int (3 : Int32)), .val (.ref wNO_TOPUP), .val .null, .val (.int (0 : Int32))] [(.int (0 : Int32)), (.int (0 : Int32))])) _
        refine XS.icmpNo X85.here hx rfl (hb hby at_71) rfl (teq (rfl : (0 : Int32) = (0 : Int32))).2 ?_
        show Steps p.tables e below (T85.setTop (mkF m 74 #[.val (.int p0), .val (.int p1), .val (.int (1 : Int32)), .val (.int (3 : Int32)), .val (.ref wNO_TOPUP), .val .null, .val (.int (0 : Int32))] [])) _
        refine XS.iconst X85.here hx rfl (hb hby at_74) ?_
        show Steps p.tables e below (T85.setTop (mkF m 75 #[.val (.int p0), .val (.int p1), .val (.int (1 : Int32)), .val (.int (3 : Int32)), .val (.ref wNO_TOPUP), .val .null, .val (.int (0 : Int32))] [(.int (1 : Int32))])) _
        refine XS.goto X85.here hx rfl (pc0 := 75) (pc' := 79) rfl (hb hby at_75) (by decide) (by decide) ?_
        show Steps p.tables e below (T85.setTop (mkF m 79 #[.val (.int p0), .val (.int p1), .val (.int (1 : Int32)), .val (.int (3 : Int32)), .val (.ref wNO_TOPUP), .val .null, .val (.int (0 : Int32))] [(.int (1 : Int32))])) _
        exact retN X85 hx (t := .boolean) Bd.returns (by simp) (hb hby at_79) hr
      · show Q0 Z p0 p1 wCARD_ERROR wPARTIAL wBALANCE wCREATE wPAYMENT_ERROR wLOAD wNO_TOPUP wORDINARY wBALANCE_ERROR h0 n0 _ T85.heap _
        rw [e85]
        exact ⟨rfl, N85⟩
  · subst hv32
    obtain ⟨i87, hi87⟩ : ∃ z, z = ((p1 &&& (2147483647 : Int32)) % (4 : Int32)) := ⟨_, rfl⟩
    have k88 : ∀ t, Steps p.tables e below (s₁.setTop (mkF m 15 #[.val (.int p0), .val (.int p1), .val (.int (2 : Int32)), .val (.int i87), .unset, .unset, .unset] [])) t → Steps p.tables e below (s₁.setTop (entryFrame m #[(.int p0), (.int p1)] maxLocals)) t := fun t kt => k31 t (by
      show Steps p.tables e below (s₁.setTop (mkF m 8 #[.val (.int p0), .val (.int p1), .val (.int (2 : Int32)), .unset, .unset, .unset, .unset] [])) _
      refine XS.iloadN X0.here hx rfl (hb hby at_8) rfl ?_
      show Steps p.tables e below (s₁.setTop (mkF m 9 #[.val (.int p0), .val (.int p1), .val (.int (2 : Int32)), .unset, .unset, .unset, .unset] [(.int p1)])) _
      refine X0.ldcInt hx hown (mvT hZ (hw _ (List.mem_of_getElem? (i := 0) rfl))) (g := (mkF m 9 #[.val (.int p0), .val (.int p1), .val (.int (2 : Int32)), .unset, .unset, .unset, .unset] [(.int p1)])) rfl (hb hby at_9) _ ?_
      show Steps p.tables e below (s₁.setTop (mkF m 11 #[.val (.int p0), .val (.int p1), .val (.int (2 : Int32)), .unset, .unset, .unset, .unset] [(.int (2147483647 : Int32)), (.int p1)])) _
      refine XS.iand X0.here hx rfl (hb hby at_11) rfl ?_
      show Steps p.tables e below (s₁.setTop (mkF m 12 #[.val (.int p0), .val (.int p1), .val (.int (2 : Int32)), .unset, .unset, .unset, .unset] [(.int (p1 &&& (2147483647 : Int32)))])) _
      refine XS.iconst X0.here hx rfl (hb hby at_12) ?_
      show Steps p.tables e below (s₁.setTop (mkF m 13 #[.val (.int p0), .val (.int p1), .val (.int (2 : Int32)), .unset, .unset, .unset, .unset] [(.int (4 : Int32)), (.int (p1 &&& (2147483647 : Int32)))])) _
      refine iremM X0 hx rfl (hb hby at_13) rfl (by decide) ?_
      rw [← hi87]
      show Steps p.tables e below (s₁.setTop (mkF m 14 #[.val (.int p0), .val (.int p1), .val (.int (2 : Int32)), .unset, .unset, .unset, .unset] [(.int i87)])) _
      refine XS.istoreN X0.here hx rfl (hb hby at_14) rfl (l' := #[.val (.int p0), .val (.int p1), .val (.int (2 : Int32)), .val (.int i87), .unset, .unset, .unset]) rfl ?_
      exact kt)
    rcases own_cases4 hi87 with hv89 | hv89 | hv89 | hv89
    · subst hv89
      obtain ⟨_, _, ⟨T90, L90, k90, n90⟩, -, X90, ⟨Lc90, hQ90, l90, y90, z90⟩, st90⟩ := Jvm.LawKit.callS X0 hx (y := (⟨"com/example/cardstand/cardstand/scenario/CardScenarioFailsPinLaw", "scenario", "(I)Lcom/example/cardstand/cardstand/scenario/CardScenario;"⟩ : MethodName)) hown (mvT hZ (hw _ (List.mem_of_getElem? (i := 1) rfl))) (mvT hZ (hw _ (List.mem_of_getElem? (i := 2) rfl))) (mvT hZ (hw _ (List.mem_of_getElem? (i := 3) rfl))) (mvT hZ (hw _ (List.mem_of_getElem? (i := 4) rfl))) (by decide) (backOf (W := 0) (rm1 l Z a0 hw [] (2 : Int32) wCARD_ERROR wPARTIAL wBALANCE wCREATE wPAYMENT_ERROR wLOAD wNO_TOPUP wORDINARY wBALANCE_ERROR h0 n0 Z0 W0 ) hZ (hw _ (List.mem_of_getElem? (i := 4) rfl)) (hw _ (List.mem_of_getElem? (i := 3) rfl)) (by decide) (by decide)) (g := (mkF m 16 #[.val (.int p0), .val (.int p1), .val (.int (2 : Int32)), .val (.int (0 : Int32)), .unset, .unset, .unset] [(.int (2 : Int32))])) rfl (by rw [hml]; rfl) (argsL := [(.int (2 : Int32))]) (rest := []) (lenOf pd_0 rfl) rfl (by show 2 * 0 + _ ≤ _; exact Nat.le_of_eq rfl) (hb hby at_16) (fun _ _ => ⟨rfl, e0, (by decide : 0 + 0 ≤ _), (by decide : 0 + 0 ≤ _)⟩)
      dsimp only [Pt.U, Pt.locs, Pt.cells, Pt.slots] at X90 l90 y90 z90 st90 hQ90
      subst l90 y90 z90
      unfold Q1 at hQ90
      have k91 : ∀ t, Steps p.tables e below (s₁.setTop (mkF m 16 #[.val (.int p0), .val (.int p1), .val (.int (2 : Int32)), .val (.int (0 : Int32)), .unset, .unset, .unset] [(.int (2 : Int32))])) t → Steps p.tables e below (s₁.setTop (entryFrame m #[(.int p0), (.int p1)] maxLocals)) t := fun t kt => k88 t (by
        show Steps p.tables e below (s₁.setTop (mkF m 15 #[.val (.int p0), .val (.int p1), .val (.int (2 : Int32)), .val (.int (0 : Int32)), .unset, .unset, .unset] [])) _
        refine XS.iloadN X0.here hx rfl (hb hby at_15) rfl ?_
        exact kt)
      rw [((by rw [f1, if_neg ((by decide) : ¬ ((2 : Int32) = (0 : Int32))), if_neg ((by decide) : ¬ ((2 : Int32) = (1 : Int32))), if_pos (rfl : (2 : Int32) = (2 : Int32))]) : (f1 (2 : Int32) wCARD_ERROR wPARTIAL wBALANCE wCREATE wPAYMENT_ERROR wLOAD wNO_TOPUP wORDINARY wBALANCE_ERROR) = wPARTIAL)] at hQ90
      obtain ⟨rfl, N90q, e90⟩ := hQ90
      have N90 := Fr.app N0 N90q
      obtain ⟨_, _, ⟨T92, L92, k92, n92⟩, -, X92, ⟨Lc92, hQ92, l92, y92, z92⟩, st92⟩ := Jvm.LawKit.callS X90 hx (y := (⟨"com/example/cardstand/cardstand/scenario/CardScenarioFailsPinLaw", "operation", "(I)Lcom/example/cardstand/cardstand/scenario/CardScenario$Operation;"⟩ : MethodName)) hown (mvT hZ (hw _ (List.mem_of_getElem? (i := 8) rfl))) (mvT hZ (hw _ (List.mem_of_getElem? (i := 9) rfl))) (mvT hZ (hw _ (List.mem_of_getElem? (i := 3) rfl))) (mvT hZ (hw _ (List.mem_of_getElem? (i := 10) rfl))) (by decide) (backOf (W := 0) (rm2 l Z a0 hw [] (0 : Int32) wCARD_ERROR wPARTIAL wBALANCE wCREATE wPAYMENT_ERROR wLOAD wNO_TOPUP wORDINARY wBALANCE_ERROR h0 n0 Z0 W0 ) hZ (hw _ (List.mem_of_getElem? (i := 10) rfl)) (hw _ (List.mem_of_getElem? (i := 3) rfl)) (by decide) (by decide)) (g := (mkF m 22 #[.val (.int p0), .val (.int p1), .val (.int (2 : Int32)), .val (.int (0 : Int32)), .val (.ref wPARTIAL), .unset, .unset] [(.int (0 : Int32))])) rfl (by rw [hml]; rfl) (argsL := [(.int (0 : Int32))]) (rest := []) (lenOf pd_1 rfl) rfl (by show 2 * 0 + _ ≤ _; exact Nat.le_of_eq rfl) (hb hby at_22) (fun _ _ => ⟨rfl, e90, (by decide : 0 + 0 ≤ _), (by decide : 0 + 0 ≤ _)⟩)
      dsimp only [Pt.U, Pt.locs, Pt.cells, Pt.slots] at X92 l92 y92 z92 st92 hQ92
      subst l92 y92 z92
      unfold Q2 at hQ92
      have k93 : ∀ t, Steps p.tables e below (T90.setTop (mkF m 22 #[.val (.int p0), .val (.int p1), .val (.int (2 : Int32)), .val (.int (0 : Int32)), .val (.ref wPARTIAL), .unset, .unset] [(.int (0 : Int32))])) t → Steps p.tables e below (s₁.setTop (entryFrame m #[(.int p0), (.int p1)] maxLocals)) t := fun t kt => k91 t (by
        show Steps p.tables e below (s₁.setTop (mkF m 16 #[.val (.int p0), .val (.int p1), .val (.int (2 : Int32)), .val (.int (0 : Int32)), .unset, .unset, .unset] [(.int (2 : Int32))])) _
        refine st90 _ ?_
        show Steps p.tables e below (T90.setTop (mkF m 19 #[.val (.int p0), .val (.int p1), .val (.int (2 : Int32)), .val (.int (0 : Int32)), .unset, .unset, .unset] [(.ref wPARTIAL)])) _
        refine XS.astore X90.here hx rfl (hb hby at_19) rfl rfl (l' := #[.val (.int p0), .val (.int p1), .val (.int (2 : Int32)), .val (.int (0 : Int32)), .val (.ref wPARTIAL), .unset, .unset]) rfl ?_
        show Steps p.tables e below (T90.setTop (mkF m 21 #[.val (.int p0), .val (.int p1), .val (.int (2 : Int32)), .val (.int (0 : Int32)), .val (.ref wPARTIAL), .unset, .unset] [])) _
        refine XS.iloadN X90.here hx rfl (hb hby at_21) rfl ?_
        exact kt)
      rw [((by rw [f2, if_pos (rfl : (0 : Int32) = (0 : Int32))]) : (f2 (0 : Int32) wCARD_ERROR wPARTIAL wBALANCE wCREATE wPAYMENT_ERROR wLOAD wNO_TOPUP wORDINARY wBALANCE_ERROR) = (.ref wCREATE))] at hQ92
      obtain ⟨rfl, N92q, e92⟩ := hQ92
      have N92 := Fr.app N90 N92q
      obtain ⟨cq94, kq94, q94a, q94b, q94c⟩ := isOf hZ e92 EPARTIAL
      obtain ⟨_, _, ⟨T94, L94, k94, n94⟩, -, X94, ⟨Lc94, hQ94, l94, y94, z94⟩, st94⟩ := X92.virtualBack hx (y := (⟨"com/example/cardstand/cardstand/scenario/CardScenario", "fails", "(Lcom/example/cardstand/cardstand/scenario/CardScenario$Operation;)Z"⟩ : MethodName)) (z := (⟨"com/example/cardstand/cardstand/scenario/CardScenario", "fails", "(Lcom/example/cardstand/cardstand/scenario/CardScenario$Operation;)Z"⟩ : MethodName)) hown (mvT hZ (hw _ (List.mem_of_getElem? (i := 11) rfl))) (mvT hZ (hw _ (List.mem_of_getElem? (i := 12) rfl))) (notFace_of_selects (args := #[]) (mvT hZ (hw _ (List.mem_of_getElem? (i := 14) rfl)))) (mvT hZ (hw _ (List.mem_of_getElem? (i := 14) rfl))) (mvT hZ (hw _ (List.mem_of_getElem? (i := 13) rfl))) (by decide) (backOf (W := 0) (rm4 l Z a0 hw [] wPARTIAL wCREATE wCARD_ERROR wPARTIAL wBALANCE wCREATE wPAYMENT_ERROR wLOAD wNO_TOPUP wORDINARY wBALANCE_ERROR h0 n0 Z0 W0 FPARTIAL_failing) hZ (hw _ (List.mem_of_getElem? (i := 15) rfl)) (hw _ (List.mem_of_getElem? (i := 6) rfl)) (by decide) (by decide)) q94a q94c (g := (mkF m 66 #[.val (.int p0), .val (.int p1), .val (.int (2 : Int32)), .val (.int (0 : Int32)), .val (.ref wPARTIAL), .val (.ref wCREATE), .val (.int (0 : Int32))] [(.ref wCREATE), (.ref wPARTIAL)])) rfl (by rw [hml]; rfl) (Steps.refl _) (argsL := [(.ref wCREATE)]) (rest := []) (lenOf pd_2 rfl) rfl (by show 2 * 0 + _ ≤ _; exact Nat.le_of_eq rfl) (hb hby at_66) (fun _ _ => ⟨rfl, e92, (by decide : 0 + 0 ≤ _), (by decide : 0 + 0 ≤ _)⟩)
      dsimp only [Pt.U, Pt.locs, Pt.cells, Pt.slots] at X94 l94 y94 z94 st94 hQ94
      subst l94 y94 z94
      unfold Q4 at hQ94
      have k95 : ∀ t, Steps p.tables e below (T92.setTop (mkF m 66 #[.val (.int p0), .val (.int p1), .val (.int (2 : Int32)), .val (.int (0 : Int32)), .val (.ref wPARTIAL), .val (.ref wCREATE), .val (.int (0 : Int32))] [(.ref wCREATE), (.ref wPARTIAL)])) t → Steps p.tables e below (s₁.setTop (entryFrame m #[(.int p0), (.int p1)] maxLocals)) t := fun t kt => k93 t (by
        show Steps p.tables e below (T90.setTop (mkF m 22 #[.val (.int p0), .val (.int p1), .val (.int (2 : Int32)), .val (.int (0 : Int32)), .val (.ref wPARTIAL), .unset, .unset] [(.int (0 : Int32))])) _
        refine st92 _ ?_
        show Steps p.tables e below (T92.setTop (mkF m 25 #[.val (.int p0), .val (.int p1), .val (.int (2 : Int32)), .val (.int (0 : Int32)), .val (.ref wPARTIAL), .unset, .unset] [(.ref wCREATE)])) _
        refine XS.astore X92.here hx rfl (hb hby at_25) rfl rfl (l' := #[.val (.int p0), .val (.int p1), .val (.int (2 : Int32)), .val (.int (0 : Int32)), .val (.ref wPARTIAL), .val (.ref wCREATE), .unset]) rfl ?_
        show Steps p.tables e below (T92.setTop (mkF m 27 #[.val (.int p0), .val (.int p1), .val (.int (2 : Int32)), .val (.int (0 : Int32)), .val (.ref wPARTIAL), .val (.ref wCREATE), .unset] [])) _
        refine XS.iloadN X92.here hx rfl (hb hby at_27) rfl ?_
        show Steps p.tables e below (T92.setTop (mkF m 28 #[.val (.int p0), .val (.int p1), .val (.int (2 : Int32)), .val (.int (0 : Int32)), .val (.ref wPARTIAL), .val (.ref wCREATE), .unset] [(.int (2 : Int32))])) _
        refine XS.ifYes X92.here hx rfl (pc0 := 28) (pc' := 35) rfl (hb hby at_28) rfl ((if0 _ _).trans (feq ((by decide) : ¬ ((2 : Int32) = (0 : Int32)))).2) (by decide) (by decide) ?_
        show Steps p.tables e below (T92.setTop (mkF m 35 #[.val (.int p0), .val (.int p1), .val (.int (2 : Int32)), .val (.int (0 : Int32)), .val (.ref wPARTIAL), .val (.ref wCREATE), .unset] [])) _
        refine XS.iloadN X92.here hx rfl (hb hby at_35) rfl ?_
        show Steps p.tables e below (T92.setTop (mkF m 36 #[.val (.int p0), .val (.int p1), .val (.int (2 : Int32)), .val (.int (0 : Int32)), .val (.ref wPARTIAL), .val (.ref wCREATE), .unset] [(.int (2 : Int32))])) _
        refine XS.iconst X92.here hx rfl (hb hby at_36) ?_
        show Steps p.tables e below (T92.setTop (mkF m 37 #[.val (.int p0), .val (.int p1), .val (.int (2 : Int32)), .val (.int (0 : Int32)), .val (.ref wPARTIAL), .val (.ref wCREATE), .unset] [(.int (3 : Int32)), (.int (2 : Int32))])) _
        refine XS.icmpYes X92.here hx rfl (pc0 := 37) (pc' := 45) rfl (hb hby at_37) rfl (feq ((by decide) : ¬ ((2 : Int32) = (3 : Int32)))).2 (by decide) (by decide) ?_
        show Steps p.tables e below (T92.setTop (mkF m 45 #[.val (.int p0), .val (.int p1), .val (.int (2 : Int32)), .val (.int (0 : Int32)), .val (.ref wPARTIAL), .val (.ref wCREATE), .unset] [])) _
        refine XS.iloadN X92.here hx rfl (hb hby at_45) rfl ?_
        show Steps p.tables e below (T92.setTop (mkF m 46 #[.val (.int p0), .val (.int p1), .val (.int (2 : Int32)), .val (.int (0 : Int32)), .val (.ref wPARTIAL), .val (.ref wCREATE), .unset] [(.int (2 : Int32))])) _
        refine XS.iconst X92.here hx rfl (hb hby at_46) ?_
        show Steps p.tables e below (T92.setTop (mkF m 47 #[.val (.int p0), .val (.int p1), .val (.int (2 : Int32)), .val (.int (0 : Int32)), .val (.ref wPARTIAL), .val (.ref wCREATE), .unset] [(.int (4 : Int32)), (.int (2 : Int32))])) _
        refine XS.icmpYes X92.here hx rfl (pc0 := 47) (pc' := 59) rfl (hb hby at_47) rfl (feq ((by decide) : ¬ ((2 : Int32) = (4 : Int32)))).2 (by decide) (by decide) ?_
        show Steps p.tables e below (T92.setTop (mkF m 59 #[.val (.int p0), .val (.int p1), .val (.int (2 : Int32)), .val (.int (0 : Int32)), .val (.ref wPARTIAL), .val (.ref wCREATE), .unset] [])) _
        refine XS.iconst X92.here hx rfl (hb hby at_59) ?_
        show Steps p.tables e below (T92.setTop (mkF m 60 #[.val (.int p0), .val (.int p1), .val (.int (2 : Int32)), .val (.int (0 : Int32)), .val (.ref wPARTIAL), .val (.ref wCREATE), .unset] [(.int (0 : Int32))])) _
        refine XS.istore X92.here hx rfl (hb hby at_60) rfl (l' := #[.val (.int p0), .val (.int p1), .val (.int (2 : Int32)), .val (.int (0 : Int32)), .val (.ref wPARTIAL), .val (.ref wCREATE), .val (.int (0 : Int32))]) rfl ?_
        show Steps p.tables e below (T92.setTop (mkF m 62 #[.val (.int p0), .val (.int p1), .val (.int (2 : Int32)), .val (.int (0 : Int32)), .val (.ref wPARTIAL), .val (.ref wCREATE), .val (.int (0 : Int32))] [])) _
        refine XS.aload X92.here hx rfl (hb hby at_62) rfl rfl ?_
        show Steps p.tables e below (T92.setTop (mkF m 64 #[.val (.int p0), .val (.int p1), .val (.int (2 : Int32)), .val (.int (0 : Int32)), .val (.ref wPARTIAL), .val (.ref wCREATE), .val (.int (0 : Int32))] [(.ref wPARTIAL)])) _
        refine XS.aload X92.here hx rfl (hb hby at_64) rfl rfl ?_
        exact kt)
      rw [((by rw [f4]) : (f4 wPARTIAL wCREATE wCARD_ERROR wPARTIAL wBALANCE wCREATE wPAYMENT_ERROR wLOAD wNO_TOPUP wORDINARY wBALANCE_ERROR) = (0 : Int32))] at hQ94
      obtain ⟨rfl, N94q, e94⟩ := hQ94
      have N94 := Fr.app N92 N94q
      obtain ⟨fs, hr, hrun, hended, hW, hsame⟩ := X94.leave (v := some (.int (1 : Int32))) (fun h => by rw [Bd.returns] at h; cases h)
      refine ⟨_, _, k95 _ ?_, hrun, hended, _, _, rfl, ?_, ⟨_, rfl⟩, hW, hsame.mono (by decide) (by decide)⟩
      · show Steps p.tables e below (T92.setTop (mkF m 66 #[.val (.int p0), .val (.int p1), .val (.int (2 : Int32)), .val (.int (0 : Int32)), .val (.ref wPARTIAL), .val (.ref wCREATE), .val (.int (0 : Int32))] [(.ref wCREATE), (.ref wPARTIAL)])) _
        refine st94.trans ?_
        show Steps p.tables e below (T94.setTop (mkF m 69 #[.val (.int p0), .val (.int p1), .val (.int (2 : Int32)), .val (.int (0 : Int32)), .val (.ref wPARTIAL), .val (.ref wCREATE), .val (.int (0 : Int32))] [(.int (0 : Int32))])) _
        refine XS.iload X94.here hx rfl (hb hby at_69) rfl ?_
        show Steps p.tables e below (T94.setTop (mkF m 71 #[.val (.int p0), .val (.int p1), .val (.int (2 : Int32)), .val (.int (0 : Int32)), .val (.ref wPARTIAL), .val (.ref wCREATE), .val (.int (0 : Int32))] [(.int (0 : Int32)), (.int (0 : Int32))])) _
        refine XS.icmpNo X94.here hx rfl (hb hby at_71) rfl (teq (rfl : (0 : Int32) = (0 : Int32))).2 ?_
        show Steps p.tables e below (T94.setTop (mkF m 74 #[.val (.int p0), .val (.int p1), .val (.int (2 : Int32)), .val (.int (0 : Int32)), .val (.ref wPARTIAL), .val (.ref wCREATE), .val (.int (0 : Int32))] [])) _
        refine XS.iconst X94.here hx rfl (hb hby at_74) ?_
        show Steps p.tables e below (T94.setTop (mkF m 75 #[.val (.int p0), .val (.int p1), .val (.int (2 : Int32)), .val (.int (0 : Int32)), .val (.ref wPARTIAL), .val (.ref wCREATE), .val (.int (0 : Int32))] [(.int (1 : Int32))])) _
        refine XS.goto X94.here hx rfl (pc0 := 75) (pc' := 79) rfl (hb hby at_75) (by decide) (by decide) ?_
        show Steps p.tables e below (T94.setTop (mkF m 79 #[.val (.int p0), .val (.int p1), .val (.int (2 : Int32)), .val (.int (0 : Int32)), .val (.ref wPARTIAL), .val (.ref wCREATE), .val (.int (0 : Int32))] [(.int (1 : Int32))])) _
        exact retN X94 hx (t := .boolean) Bd.returns (by simp) (hb hby at_79) hr
      · show Q0 Z p0 p1 wCARD_ERROR wPARTIAL wBALANCE wCREATE wPAYMENT_ERROR wLOAD wNO_TOPUP wORDINARY wBALANCE_ERROR h0 n0 _ T94.heap _
        rw [e94]
        exact ⟨rfl, N94⟩
    · subst hv89
      obtain ⟨_, _, ⟨T96, L96, k96, n96⟩, -, X96, ⟨Lc96, hQ96, l96, y96, z96⟩, st96⟩ := Jvm.LawKit.callS X0 hx (y := (⟨"com/example/cardstand/cardstand/scenario/CardScenarioFailsPinLaw", "scenario", "(I)Lcom/example/cardstand/cardstand/scenario/CardScenario;"⟩ : MethodName)) hown (mvT hZ (hw _ (List.mem_of_getElem? (i := 1) rfl))) (mvT hZ (hw _ (List.mem_of_getElem? (i := 2) rfl))) (mvT hZ (hw _ (List.mem_of_getElem? (i := 3) rfl))) (mvT hZ (hw _ (List.mem_of_getElem? (i := 4) rfl))) (by decide) (backOf (W := 0) (rm1 l Z a0 hw [] (2 : Int32) wCARD_ERROR wPARTIAL wBALANCE wCREATE wPAYMENT_ERROR wLOAD wNO_TOPUP wORDINARY wBALANCE_ERROR h0 n0 Z0 W0 ) hZ (hw _ (List.mem_of_getElem? (i := 4) rfl)) (hw _ (List.mem_of_getElem? (i := 3) rfl)) (by decide) (by decide)) (g := (mkF m 16 #[.val (.int p0), .val (.int p1), .val (.int (2 : Int32)), .val (.int (1 : Int32)), .unset, .unset, .unset] [(.int (2 : Int32))])) rfl (by rw [hml]; rfl) (argsL := [(.int (2 : Int32))]) (rest := []) (lenOf pd_0 rfl) rfl (by show 2 * 0 + _ ≤ _; exact Nat.le_of_eq rfl) (hb hby at_16) (fun _ _ => ⟨rfl, e0, (by decide : 0 + 0 ≤ _), (by decide : 0 + 0 ≤ _)⟩)
      dsimp only [Pt.U, Pt.locs, Pt.cells, Pt.slots] at X96 l96 y96 z96 st96 hQ96
      subst l96 y96 z96
      unfold Q1 at hQ96
      have k97 : ∀ t, Steps p.tables e below (s₁.setTop (mkF m 16 #[.val (.int p0), .val (.int p1), .val (.int (2 : Int32)), .val (.int (1 : Int32)), .unset, .unset, .unset] [(.int (2 : Int32))])) t → Steps p.tables e below (s₁.setTop (entryFrame m #[(.int p0), (.int p1)] maxLocals)) t := fun t kt => k88 t (by
        show Steps p.tables e below (s₁.setTop (mkF m 15 #[.val (.int p0), .val (.int p1), .val (.int (2 : Int32)), .val (.int (1 : Int32)), .unset, .unset, .unset] [])) _
        refine XS.iloadN X0.here hx rfl (hb hby at_15) rfl ?_
        exact kt)
      rw [((by rw [f1, if_neg ((by decide) : ¬ ((2 : Int32) = (0 : Int32))), if_neg ((by decide) : ¬ ((2 : Int32) = (1 : Int32))), if_pos (rfl : (2 : Int32) = (2 : Int32))]) : (f1 (2 : Int32) wCARD_ERROR wPARTIAL wBALANCE wCREATE wPAYMENT_ERROR wLOAD wNO_TOPUP wORDINARY wBALANCE_ERROR) = wPARTIAL)] at hQ96
      obtain ⟨rfl, N96q, e96⟩ := hQ96
      have N96 := Fr.app N0 N96q
      obtain ⟨_, _, ⟨T98, L98, k98, n98⟩, -, X98, ⟨Lc98, hQ98, l98, y98, z98⟩, st98⟩ := Jvm.LawKit.callS X96 hx (y := (⟨"com/example/cardstand/cardstand/scenario/CardScenarioFailsPinLaw", "operation", "(I)Lcom/example/cardstand/cardstand/scenario/CardScenario$Operation;"⟩ : MethodName)) hown (mvT hZ (hw _ (List.mem_of_getElem? (i := 8) rfl))) (mvT hZ (hw _ (List.mem_of_getElem? (i := 9) rfl))) (mvT hZ (hw _ (List.mem_of_getElem? (i := 3) rfl))) (mvT hZ (hw _ (List.mem_of_getElem? (i := 10) rfl))) (by decide) (backOf (W := 0) (rm2 l Z a0 hw [] (1 : Int32) wCARD_ERROR wPARTIAL wBALANCE wCREATE wPAYMENT_ERROR wLOAD wNO_TOPUP wORDINARY wBALANCE_ERROR h0 n0 Z0 W0 ) hZ (hw _ (List.mem_of_getElem? (i := 10) rfl)) (hw _ (List.mem_of_getElem? (i := 3) rfl)) (by decide) (by decide)) (g := (mkF m 22 #[.val (.int p0), .val (.int p1), .val (.int (2 : Int32)), .val (.int (1 : Int32)), .val (.ref wPARTIAL), .unset, .unset] [(.int (1 : Int32))])) rfl (by rw [hml]; rfl) (argsL := [(.int (1 : Int32))]) (rest := []) (lenOf pd_1 rfl) rfl (by show 2 * 0 + _ ≤ _; exact Nat.le_of_eq rfl) (hb hby at_22) (fun _ _ => ⟨rfl, e96, (by decide : 0 + 0 ≤ _), (by decide : 0 + 0 ≤ _)⟩)
      dsimp only [Pt.U, Pt.locs, Pt.cells, Pt.slots] at X98 l98 y98 z98 st98 hQ98
      subst l98 y98 z98
      unfold Q2 at hQ98
      have k99 : ∀ t, Steps p.tables e below (T96.setTop (mkF m 22 #[.val (.int p0), .val (.int p1), .val (.int (2 : Int32)), .val (.int (1 : Int32)), .val (.ref wPARTIAL), .unset, .unset] [(.int (1 : Int32))])) t → Steps p.tables e below (s₁.setTop (entryFrame m #[(.int p0), (.int p1)] maxLocals)) t := fun t kt => k97 t (by
        show Steps p.tables e below (s₁.setTop (mkF m 16 #[.val (.int p0), .val (.int p1), .val (.int (2 : Int32)), .val (.int (1 : Int32)), .unset, .unset, .unset] [(.int (2 : Int32))])) _
        refine st96 _ ?_
        show Steps p.tables e below (T96.setTop (mkF m 19 #[.val (.int p0), .val (.int p1), .val (.int (2 : Int32)), .val (.int (1 : Int32)), .unset, .unset, .unset] [(.ref wPARTIAL)])) _
        refine XS.astore X96.here hx rfl (hb hby at_19) rfl rfl (l' := #[.val (.int p0), .val (.int p1), .val (.int (2 : Int32)), .val (.int (1 : Int32)), .val (.ref wPARTIAL), .unset, .unset]) rfl ?_
        show Steps p.tables e below (T96.setTop (mkF m 21 #[.val (.int p0), .val (.int p1), .val (.int (2 : Int32)), .val (.int (1 : Int32)), .val (.ref wPARTIAL), .unset, .unset] [])) _
        refine XS.iloadN X96.here hx rfl (hb hby at_21) rfl ?_
        exact kt)
      rw [((by rw [f2, if_neg ((by decide) : ¬ ((1 : Int32) = (0 : Int32))), if_pos (rfl : (1 : Int32) = (1 : Int32))]) : (f2 (1 : Int32) wCARD_ERROR wPARTIAL wBALANCE wCREATE wPAYMENT_ERROR wLOAD wNO_TOPUP wORDINARY wBALANCE_ERROR) = (.ref wBALANCE))] at hQ98
      obtain ⟨rfl, N98q, e98⟩ := hQ98
      have N98 := Fr.app N96 N98q
      obtain ⟨cq100, kq100, q100a, q100b, q100c⟩ := isOf hZ e98 EPARTIAL
      obtain ⟨_, _, ⟨T100, L100, k100, n100⟩, -, X100, ⟨Lc100, hQ100, l100, y100, z100⟩, st100⟩ := X98.virtualBack hx (y := (⟨"com/example/cardstand/cardstand/scenario/CardScenario", "fails", "(Lcom/example/cardstand/cardstand/scenario/CardScenario$Operation;)Z"⟩ : MethodName)) (z := (⟨"com/example/cardstand/cardstand/scenario/CardScenario", "fails", "(Lcom/example/cardstand/cardstand/scenario/CardScenario$Operation;)Z"⟩ : MethodName)) hown (mvT hZ (hw _ (List.mem_of_getElem? (i := 11) rfl))) (mvT hZ (hw _ (List.mem_of_getElem? (i := 12) rfl))) (notFace_of_selects (args := #[]) (mvT hZ (hw _ (List.mem_of_getElem? (i := 14) rfl)))) (mvT hZ (hw _ (List.mem_of_getElem? (i := 14) rfl))) (mvT hZ (hw _ (List.mem_of_getElem? (i := 13) rfl))) (by decide) (backOf (W := 0) (rm4 l Z a0 hw [] wPARTIAL wBALANCE wCARD_ERROR wPARTIAL wBALANCE wCREATE wPAYMENT_ERROR wLOAD wNO_TOPUP wORDINARY wBALANCE_ERROR h0 n0 Z0 W0 FPARTIAL_failing) hZ (hw _ (List.mem_of_getElem? (i := 15) rfl)) (hw _ (List.mem_of_getElem? (i := 6) rfl)) (by decide) (by decide)) q100a q100c (g := (mkF m 66 #[.val (.int p0), .val (.int p1), .val (.int (2 : Int32)), .val (.int (1 : Int32)), .val (.ref wPARTIAL), .val (.ref wBALANCE), .val (.int (0 : Int32))] [(.ref wBALANCE), (.ref wPARTIAL)])) rfl (by rw [hml]; rfl) (Steps.refl _) (argsL := [(.ref wBALANCE)]) (rest := []) (lenOf pd_2 rfl) rfl (by show 2 * 0 + _ ≤ _; exact Nat.le_of_eq rfl) (hb hby at_66) (fun _ _ => ⟨rfl, e98, (by decide : 0 + 0 ≤ _), (by decide : 0 + 0 ≤ _)⟩)
      dsimp only [Pt.U, Pt.locs, Pt.cells, Pt.slots] at X100 l100 y100 z100 st100 hQ100
      subst l100 y100 z100
      unfold Q4 at hQ100
      have k101 : ∀ t, Steps p.tables e below (T98.setTop (mkF m 66 #[.val (.int p0), .val (.int p1), .val (.int (2 : Int32)), .val (.int (1 : Int32)), .val (.ref wPARTIAL), .val (.ref wBALANCE), .val (.int (0 : Int32))] [(.ref wBALANCE), (.ref wPARTIAL)])) t → Steps p.tables e below (s₁.setTop (entryFrame m #[(.int p0), (.int p1)] maxLocals)) t := fun t kt => k99 t (by
        show Steps p.tables e below (T96.setTop (mkF m 22 #[.val (.int p0), .val (.int p1), .val (.int (2 : Int32)), .val (.int (1 : Int32)), .val (.ref wPARTIAL), .unset, .unset] [(.int (1 : Int32))])) _
        refine st98 _ ?_
        show Steps p.tables e below (T98.setTop (mkF m 25 #[.val (.int p0), .val (.int p1), .val (.int (2 : Int32)), .val (.int (1 : Int32)), .val (.ref wPARTIAL), .unset, .unset] [(.ref wBALANCE)])) _
        refine XS.astore X98.here hx rfl (hb hby at_25) rfl rfl (l' := #[.val (.int p0), .val (.int p1), .val (.int (2 : Int32)), .val (.int (1 : Int32)), .val (.ref wPARTIAL), .val (.ref wBALANCE), .unset]) rfl ?_
        show Steps p.tables e below (T98.setTop (mkF m 27 #[.val (.int p0), .val (.int p1), .val (.int (2 : Int32)), .val (.int (1 : Int32)), .val (.ref wPARTIAL), .val (.ref wBALANCE), .unset] [])) _
        refine XS.iloadN X98.here hx rfl (hb hby at_27) rfl ?_
        show Steps p.tables e below (T98.setTop (mkF m 28 #[.val (.int p0), .val (.int p1), .val (.int (2 : Int32)), .val (.int (1 : Int32)), .val (.ref wPARTIAL), .val (.ref wBALANCE), .unset] [(.int (2 : Int32))])) _
        refine XS.ifYes X98.here hx rfl (pc0 := 28) (pc' := 35) rfl (hb hby at_28) rfl ((if0 _ _).trans (feq ((by decide) : ¬ ((2 : Int32) = (0 : Int32)))).2) (by decide) (by decide) ?_
        show Steps p.tables e below (T98.setTop (mkF m 35 #[.val (.int p0), .val (.int p1), .val (.int (2 : Int32)), .val (.int (1 : Int32)), .val (.ref wPARTIAL), .val (.ref wBALANCE), .unset] [])) _
        refine XS.iloadN X98.here hx rfl (hb hby at_35) rfl ?_
        show Steps p.tables e below (T98.setTop (mkF m 36 #[.val (.int p0), .val (.int p1), .val (.int (2 : Int32)), .val (.int (1 : Int32)), .val (.ref wPARTIAL), .val (.ref wBALANCE), .unset] [(.int (2 : Int32))])) _
        refine XS.iconst X98.here hx rfl (hb hby at_36) ?_
        show Steps p.tables e below (T98.setTop (mkF m 37 #[.val (.int p0), .val (.int p1), .val (.int (2 : Int32)), .val (.int (1 : Int32)), .val (.ref wPARTIAL), .val (.ref wBALANCE), .unset] [(.int (3 : Int32)), (.int (2 : Int32))])) _
        refine XS.icmpYes X98.here hx rfl (pc0 := 37) (pc' := 45) rfl (hb hby at_37) rfl (feq ((by decide) : ¬ ((2 : Int32) = (3 : Int32)))).2 (by decide) (by decide) ?_
        show Steps p.tables e below (T98.setTop (mkF m 45 #[.val (.int p0), .val (.int p1), .val (.int (2 : Int32)), .val (.int (1 : Int32)), .val (.ref wPARTIAL), .val (.ref wBALANCE), .unset] [])) _
        refine XS.iloadN X98.here hx rfl (hb hby at_45) rfl ?_
        show Steps p.tables e below (T98.setTop (mkF m 46 #[.val (.int p0), .val (.int p1), .val (.int (2 : Int32)), .val (.int (1 : Int32)), .val (.ref wPARTIAL), .val (.ref wBALANCE), .unset] [(.int (2 : Int32))])) _
        refine XS.iconst X98.here hx rfl (hb hby at_46) ?_
        show Steps p.tables e below (T98.setTop (mkF m 47 #[.val (.int p0), .val (.int p1), .val (.int (2 : Int32)), .val (.int (1 : Int32)), .val (.ref wPARTIAL), .val (.ref wBALANCE), .unset] [(.int (4 : Int32)), (.int (2 : Int32))])) _
        refine XS.icmpYes X98.here hx rfl (pc0 := 47) (pc' := 59) rfl (hb hby at_47) rfl (feq ((by decide) : ¬ ((2 : Int32) = (4 : Int32)))).2 (by decide) (by decide) ?_
        show Steps p.tables e below (T98.setTop (mkF m 59 #[.val (.int p0), .val (.int p1), .val (.int (2 : Int32)), .val (.int (1 : Int32)), .val (.ref wPARTIAL), .val (.ref wBALANCE), .unset] [])) _
        refine XS.iconst X98.here hx rfl (hb hby at_59) ?_
        show Steps p.tables e below (T98.setTop (mkF m 60 #[.val (.int p0), .val (.int p1), .val (.int (2 : Int32)), .val (.int (1 : Int32)), .val (.ref wPARTIAL), .val (.ref wBALANCE), .unset] [(.int (0 : Int32))])) _
        refine XS.istore X98.here hx rfl (hb hby at_60) rfl (l' := #[.val (.int p0), .val (.int p1), .val (.int (2 : Int32)), .val (.int (1 : Int32)), .val (.ref wPARTIAL), .val (.ref wBALANCE), .val (.int (0 : Int32))]) rfl ?_
        show Steps p.tables e below (T98.setTop (mkF m 62 #[.val (.int p0), .val (.int p1), .val (.int (2 : Int32)), .val (.int (1 : Int32)), .val (.ref wPARTIAL), .val (.ref wBALANCE), .val (.int (0 : Int32))] [])) _
        refine XS.aload X98.here hx rfl (hb hby at_62) rfl rfl ?_
        show Steps p.tables e below (T98.setTop (mkF m 64 #[.val (.int p0), .val (.int p1), .val (.int (2 : Int32)), .val (.int (1 : Int32)), .val (.ref wPARTIAL), .val (.ref wBALANCE), .val (.int (0 : Int32))] [(.ref wPARTIAL)])) _
        refine XS.aload X98.here hx rfl (hb hby at_64) rfl rfl ?_
        exact kt)
      rw [((by rw [f4]) : (f4 wPARTIAL wBALANCE wCARD_ERROR wPARTIAL wBALANCE wCREATE wPAYMENT_ERROR wLOAD wNO_TOPUP wORDINARY wBALANCE_ERROR) = (0 : Int32))] at hQ100
      obtain ⟨rfl, N100q, e100⟩ := hQ100
      have N100 := Fr.app N98 N100q
      obtain ⟨fs, hr, hrun, hended, hW, hsame⟩ := X100.leave (v := some (.int (1 : Int32))) (fun h => by rw [Bd.returns] at h; cases h)
      refine ⟨_, _, k101 _ ?_, hrun, hended, _, _, rfl, ?_, ⟨_, rfl⟩, hW, hsame.mono (by decide) (by decide)⟩
      · show Steps p.tables e below (T98.setTop (mkF m 66 #[.val (.int p0), .val (.int p1), .val (.int (2 : Int32)), .val (.int (1 : Int32)), .val (.ref wPARTIAL), .val (.ref wBALANCE), .val (.int (0 : Int32))] [(.ref wBALANCE), (.ref wPARTIAL)])) _
        refine st100.trans ?_
        show Steps p.tables e below (T100.setTop (mkF m 69 #[.val (.int p0), .val (.int p1), .val (.int (2 : Int32)), .val (.int (1 : Int32)), .val (.ref wPARTIAL), .val (.ref wBALANCE), .val (.int (0 : Int32))] [(.int (0 : Int32))])) _
        refine XS.iload X100.here hx rfl (hb hby at_69) rfl ?_
        show Steps p.tables e below (T100.setTop (mkF m 71 #[.val (.int p0), .val (.int p1), .val (.int (2 : Int32)), .val (.int (1 : Int32)), .val (.ref wPARTIAL), .val (.ref wBALANCE), .val (.int (0 : Int32))] [(.int (0 : Int32)), (.int (0 : Int32))])) _
        refine XS.icmpNo X100.here hx rfl (hb hby at_71) rfl (teq (rfl : (0 : Int32) = (0 : Int32))).2 ?_
        show Steps p.tables e below (T100.setTop (mkF m 74 #[.val (.int p0), .val (.int p1), .val (.int (2 : Int32)), .val (.int (1 : Int32)), .val (.ref wPARTIAL), .val (.ref wBALANCE), .val (.int (0 : Int32))] [])) _
        refine XS.iconst X100.here hx rfl (hb hby at_74) ?_
        show Steps p.tables e below (T100.setTop (mkF m 75 #[.val (.int p0), .val (.int p1), .val (.int (2 : Int32)), .val (.int (1 : Int32)), .val (.ref wPARTIAL), .val (.ref wBALANCE), .val (.int (0 : Int32))] [(.int (1 : Int32))])) _
        refine XS.goto X100.here hx rfl (pc0 := 75) (pc' := 79) rfl (hb hby at_75) (by decide) (by decide) ?_
        show Steps p.tables e below (T100.setTop (mkF m 79 #[.val (.int p0), .val (.int p1), .val (.int (2 : Int32)), .val (.int (1 : Int32)), .val (.ref wPARTIAL), .val (.ref wBALANCE), .val (.int (0 : Int32))] [(.int (1 : Int32))])) _
        exact retN X100 hx (t := .boolean) Bd.returns (by simp) (hb hby at_79) hr
      · show Q0 Z p0 p1 wCARD_ERROR wPARTIAL wBALANCE wCREATE wPAYMENT_ERROR wLOAD wNO_TOPUP wORDINARY wBALANCE_ERROR h0 n0 _ T100.heap _
        rw [e100]
        exact ⟨rfl, N100⟩
    · subst hv89
      obtain ⟨_, _, ⟨T102, L102, k102, n102⟩, -, X102, ⟨Lc102, hQ102, l102, y102, z102⟩, st102⟩ := Jvm.LawKit.callS X0 hx (y := (⟨"com/example/cardstand/cardstand/scenario/CardScenarioFailsPinLaw", "scenario", "(I)Lcom/example/cardstand/cardstand/scenario/CardScenario;"⟩ : MethodName)) hown (mvT hZ (hw _ (List.mem_of_getElem? (i := 1) rfl))) (mvT hZ (hw _ (List.mem_of_getElem? (i := 2) rfl))) (mvT hZ (hw _ (List.mem_of_getElem? (i := 3) rfl))) (mvT hZ (hw _ (List.mem_of_getElem? (i := 4) rfl))) (by decide) (backOf (W := 0) (rm1 l Z a0 hw [] (2 : Int32) wCARD_ERROR wPARTIAL wBALANCE wCREATE wPAYMENT_ERROR wLOAD wNO_TOPUP wORDINARY wBALANCE_ERROR h0 n0 Z0 W0 ) hZ (hw _ (List.mem_of_getElem? (i := 4) rfl)) (hw _ (List.mem_of_getElem? (i := 3) rfl)) (by decide) (by decide)) (g := (mkF m 16 #[.val (.int p0), .val (.int p1), .val (.int (2 : Int32)), .val (.int (2 : Int32)), .unset, .unset, .unset] [(.int (2 : Int32))])) rfl (by rw [hml]; rfl) (argsL := [(.int (2 : Int32))]) (rest := []) (lenOf pd_0 rfl) rfl (by show 2 * 0 + _ ≤ _; exact Nat.le_of_eq rfl) (hb hby at_16) (fun _ _ => ⟨rfl, e0, (by decide : 0 + 0 ≤ _), (by decide : 0 + 0 ≤ _)⟩)
      dsimp only [Pt.U, Pt.locs, Pt.cells, Pt.slots] at X102 l102 y102 z102 st102 hQ102
      subst l102 y102 z102
      unfold Q1 at hQ102
      have k103 : ∀ t, Steps p.tables e below (s₁.setTop (mkF m 16 #[.val (.int p0), .val (.int p1), .val (.int (2 : Int32)), .val (.int (2 : Int32)), .unset, .unset, .unset] [(.int (2 : Int32))])) t → Steps p.tables e below (s₁.setTop (entryFrame m #[(.int p0), (.int p1)] maxLocals)) t := fun t kt => k88 t (by
        show Steps p.tables e below (s₁.setTop (mkF m 15 #[.val (.int p0), .val (.int p1), .val (.int (2 : Int32)), .val (.int (2 : Int32)), .unset, .unset, .unset] [])) _
        refine XS.iloadN X0.here hx rfl (hb hby at_15) rfl ?_
        exact kt)
      rw [((by rw [f1, if_neg ((by decide) : ¬ ((2 : Int32) = (0 : Int32))), if_neg ((by decide) : ¬ ((2 : Int32) = (1 : Int32))), if_pos (rfl : (2 : Int32) = (2 : Int32))]) : (f1 (2 : Int32) wCARD_ERROR wPARTIAL wBALANCE wCREATE wPAYMENT_ERROR wLOAD wNO_TOPUP wORDINARY wBALANCE_ERROR) = wPARTIAL)] at hQ102
      obtain ⟨rfl, N102q, e102⟩ := hQ102
      have N102 := Fr.app N0 N102q
      obtain ⟨_, _, ⟨T104, L104, k104, n104⟩, -, X104, ⟨Lc104, hQ104, l104, y104, z104⟩, st104⟩ := Jvm.LawKit.callS X102 hx (y := (⟨"com/example/cardstand/cardstand/scenario/CardScenarioFailsPinLaw", "operation", "(I)Lcom/example/cardstand/cardstand/scenario/CardScenario$Operation;"⟩ : MethodName)) hown (mvT hZ (hw _ (List.mem_of_getElem? (i := 8) rfl))) (mvT hZ (hw _ (List.mem_of_getElem? (i := 9) rfl))) (mvT hZ (hw _ (List.mem_of_getElem? (i := 3) rfl))) (mvT hZ (hw _ (List.mem_of_getElem? (i := 10) rfl))) (by decide) (backOf (W := 0) (rm2 l Z a0 hw [] (2 : Int32) wCARD_ERROR wPARTIAL wBALANCE wCREATE wPAYMENT_ERROR wLOAD wNO_TOPUP wORDINARY wBALANCE_ERROR h0 n0 Z0 W0 ) hZ (hw _ (List.mem_of_getElem? (i := 10) rfl)) (hw _ (List.mem_of_getElem? (i := 3) rfl)) (by decide) (by decide)) (g := (mkF m 22 #[.val (.int p0), .val (.int p1), .val (.int (2 : Int32)), .val (.int (2 : Int32)), .val (.ref wPARTIAL), .unset, .unset] [(.int (2 : Int32))])) rfl (by rw [hml]; rfl) (argsL := [(.int (2 : Int32))]) (rest := []) (lenOf pd_1 rfl) rfl (by show 2 * 0 + _ ≤ _; exact Nat.le_of_eq rfl) (hb hby at_22) (fun _ _ => ⟨rfl, e102, (by decide : 0 + 0 ≤ _), (by decide : 0 + 0 ≤ _)⟩)
      dsimp only [Pt.U, Pt.locs, Pt.cells, Pt.slots] at X104 l104 y104 z104 st104 hQ104
      subst l104 y104 z104
      unfold Q2 at hQ104
      have k105 : ∀ t, Steps p.tables e below (T102.setTop (mkF m 22 #[.val (.int p0), .val (.int p1), .val (.int (2 : Int32)), .val (.int (2 : Int32)), .val (.ref wPARTIAL), .unset, .unset] [(.int (2 : Int32))])) t → Steps p.tables e below (s₁.setTop (entryFrame m #[(.int p0), (.int p1)] maxLocals)) t := fun t kt => k103 t (by
        show Steps p.tables e below (s₁.setTop (mkF m 16 #[.val (.int p0), .val (.int p1), .val (.int (2 : Int32)), .val (.int (2 : Int32)), .unset, .unset, .unset] [(.int (2 : Int32))])) _
        refine st102 _ ?_
        show Steps p.tables e below (T102.setTop (mkF m 19 #[.val (.int p0), .val (.int p1), .val (.int (2 : Int32)), .val (.int (2 : Int32)), .unset, .unset, .unset] [(.ref wPARTIAL)])) _
        refine XS.astore X102.here hx rfl (hb hby at_19) rfl rfl (l' := #[.val (.int p0), .val (.int p1), .val (.int (2 : Int32)), .val (.int (2 : Int32)), .val (.ref wPARTIAL), .unset, .unset]) rfl ?_
        show Steps p.tables e below (T102.setTop (mkF m 21 #[.val (.int p0), .val (.int p1), .val (.int (2 : Int32)), .val (.int (2 : Int32)), .val (.ref wPARTIAL), .unset, .unset] [])) _
        refine XS.iloadN X102.here hx rfl (hb hby at_21) rfl ?_
        exact kt)
      rw [((by rw [f2, if_neg ((by decide) : ¬ ((2 : Int32) = (0 : Int32))), if_neg ((by decide) : ¬ ((2 : Int32) = (1 : Int32))), if_pos (rfl : (2 : Int32) = (2 : Int32))]) : (f2 (2 : Int32) wCARD_ERROR wPARTIAL wBALANCE wCREATE wPAYMENT_ERROR wLOAD wNO_TOPUP wORDINARY wBALANCE_ERROR) = (.ref wLOAD))] at hQ104
      obtain ⟨rfl, N104q, e104⟩ := hQ104
      have N104 := Fr.app N102 N104q
      obtain ⟨cq106, kq106, q106a, q106b, q106c⟩ := isOf hZ e104 EPARTIAL
      obtain ⟨_, _, ⟨T106, L106, k106, n106⟩, -, X106, ⟨Lc106, hQ106, l106, y106, z106⟩, st106⟩ := X104.virtualBack hx (y := (⟨"com/example/cardstand/cardstand/scenario/CardScenario", "fails", "(Lcom/example/cardstand/cardstand/scenario/CardScenario$Operation;)Z"⟩ : MethodName)) (z := (⟨"com/example/cardstand/cardstand/scenario/CardScenario", "fails", "(Lcom/example/cardstand/cardstand/scenario/CardScenario$Operation;)Z"⟩ : MethodName)) hown (mvT hZ (hw _ (List.mem_of_getElem? (i := 11) rfl))) (mvT hZ (hw _ (List.mem_of_getElem? (i := 12) rfl))) (notFace_of_selects (args := #[]) (mvT hZ (hw _ (List.mem_of_getElem? (i := 14) rfl)))) (mvT hZ (hw _ (List.mem_of_getElem? (i := 14) rfl))) (mvT hZ (hw _ (List.mem_of_getElem? (i := 13) rfl))) (by decide) (backOf (W := 0) (rm4 l Z a0 hw [] wPARTIAL wLOAD wCARD_ERROR wPARTIAL wBALANCE wCREATE wPAYMENT_ERROR wLOAD wNO_TOPUP wORDINARY wBALANCE_ERROR h0 n0 Z0 W0 FPARTIAL_failing) hZ (hw _ (List.mem_of_getElem? (i := 15) rfl)) (hw _ (List.mem_of_getElem? (i := 6) rfl)) (by decide) (by decide)) q106a q106c (g := (mkF m 66 #[.val (.int p0), .val (.int p1), .val (.int (2 : Int32)), .val (.int (2 : Int32)), .val (.ref wPARTIAL), .val (.ref wLOAD), .val (.int (0 : Int32))] [(.ref wLOAD), (.ref wPARTIAL)])) rfl (by rw [hml]; rfl) (Steps.refl _) (argsL := [(.ref wLOAD)]) (rest := []) (lenOf pd_2 rfl) rfl (by show 2 * 0 + _ ≤ _; exact Nat.le_of_eq rfl) (hb hby at_66) (fun _ _ => ⟨rfl, e104, (by decide : 0 + 0 ≤ _), (by decide : 0 + 0 ≤ _)⟩)
      dsimp only [Pt.U, Pt.locs, Pt.cells, Pt.slots] at X106 l106 y106 z106 st106 hQ106
      subst l106 y106 z106
      unfold Q4 at hQ106
      have k107 : ∀ t, Steps p.tables e below (T104.setTop (mkF m 66 #[.val (.int p0), .val (.int p1), .val (.int (2 : Int32)), .val (.int (2 : Int32)), .val (.ref wPARTIAL), .val (.ref wLOAD), .val (.int (0 : Int32))] [(.ref wLOAD), (.ref wPARTIAL)])) t → Steps p.tables e below (s₁.setTop (entryFrame m #[(.int p0), (.int p1)] maxLocals)) t := fun t kt => k105 t (by
        show Steps p.tables e below (T102.setTop (mkF m 22 #[.val (.int p0), .val (.int p1), .val (.int (2 : Int32)), .val (.int (2 : Int32)), .val (.ref wPARTIAL), .unset, .unset] [(.int (2 : Int32))])) _
        refine st104 _ ?_
        show Steps p.tables e below (T104.setTop (mkF m 25 #[.val (.int p0), .val (.int p1), .val (.int (2 : Int32)), .val (.int (2 : Int32)), .val (.ref wPARTIAL), .unset, .unset] [(.ref wLOAD)])) _
        refine XS.astore X104.here hx rfl (hb hby at_25) rfl rfl (l' := #[.val (.int p0), .val (.int p1), .val (.int (2 : Int32)), .val (.int (2 : Int32)), .val (.ref wPARTIAL), .val (.ref wLOAD), .unset]) rfl ?_
        show Steps p.tables e below (T104.setTop (mkF m 27 #[.val (.int p0), .val (.int p1), .val (.int (2 : Int32)), .val (.int (2 : Int32)), .val (.ref wPARTIAL), .val (.ref wLOAD), .unset] [])) _
        refine XS.iloadN X104.here hx rfl (hb hby at_27) rfl ?_
        show Steps p.tables e below (T104.setTop (mkF m 28 #[.val (.int p0), .val (.int p1), .val (.int (2 : Int32)), .val (.int (2 : Int32)), .val (.ref wPARTIAL), .val (.ref wLOAD), .unset] [(.int (2 : Int32))])) _
        refine XS.ifYes X104.here hx rfl (pc0 := 28) (pc' := 35) rfl (hb hby at_28) rfl ((if0 _ _).trans (feq ((by decide) : ¬ ((2 : Int32) = (0 : Int32)))).2) (by decide) (by decide) ?_
        show Steps p.tables e below (T104.setTop (mkF m 35 #[.val (.int p0), .val (.int p1), .val (.int (2 : Int32)), .val (.int (2 : Int32)), .val (.ref wPARTIAL), .val (.ref wLOAD), .unset] [])) _
        refine XS.iloadN X104.here hx rfl (hb hby at_35) rfl ?_
        show Steps p.tables e below (T104.setTop (mkF m 36 #[.val (.int p0), .val (.int p1), .val (.int (2 : Int32)), .val (.int (2 : Int32)), .val (.ref wPARTIAL), .val (.ref wLOAD), .unset] [(.int (2 : Int32))])) _
        refine XS.iconst X104.here hx rfl (hb hby at_36) ?_
        show Steps p.tables e below (T104.setTop (mkF m 37 #[.val (.int p0), .val (.int p1), .val (.int (2 : Int32)), .val (.int (2 : Int32)), .val (.ref wPARTIAL), .val (.ref wLOAD), .unset] [(.int (3 : Int32)), (.int (2 : Int32))])) _
        refine XS.icmpYes X104.here hx rfl (pc0 := 37) (pc' := 45) rfl (hb hby at_37) rfl (feq ((by decide) : ¬ ((2 : Int32) = (3 : Int32)))).2 (by decide) (by decide) ?_
        show Steps p.tables e below (T104.setTop (mkF m 45 #[.val (.int p0), .val (.int p1), .val (.int (2 : Int32)), .val (.int (2 : Int32)), .val (.ref wPARTIAL), .val (.ref wLOAD), .unset] [])) _
        refine XS.iloadN X104.here hx rfl (hb hby at_45) rfl ?_
        show Steps p.tables e below (T104.setTop (mkF m 46 #[.val (.int p0), .val (.int p1), .val (.int (2 : Int32)), .val (.int (2 : Int32)), .val (.ref wPARTIAL), .val (.ref wLOAD), .unset] [(.int (2 : Int32))])) _
        refine XS.iconst X104.here hx rfl (hb hby at_46) ?_
        show Steps p.tables e below (T104.setTop (mkF m 47 #[.val (.int p0), .val (.int p1), .val (.int (2 : Int32)), .val (.int (2 : Int32)), .val (.ref wPARTIAL), .val (.ref wLOAD), .unset] [(.int (4 : Int32)), (.int (2 : Int32))])) _
        refine XS.icmpYes X104.here hx rfl (pc0 := 47) (pc' := 59) rfl (hb hby at_47) rfl (feq ((by decide) : ¬ ((2 : Int32) = (4 : Int32)))).2 (by decide) (by decide) ?_
        show Steps p.tables e below (T104.setTop (mkF m 59 #[.val (.int p0), .val (.int p1), .val (.int (2 : Int32)), .val (.int (2 : Int32)), .val (.ref wPARTIAL), .val (.ref wLOAD), .unset] [])) _
        refine XS.iconst X104.here hx rfl (hb hby at_59) ?_
        show Steps p.tables e below (T104.setTop (mkF m 60 #[.val (.int p0), .val (.int p1), .val (.int (2 : Int32)), .val (.int (2 : Int32)), .val (.ref wPARTIAL), .val (.ref wLOAD), .unset] [(.int (0 : Int32))])) _
        refine XS.istore X104.here hx rfl (hb hby at_60) rfl (l' := #[.val (.int p0), .val (.int p1), .val (.int (2 : Int32)), .val (.int (2 : Int32)), .val (.ref wPARTIAL), .val (.ref wLOAD), .val (.int (0 : Int32))]) rfl ?_
        show Steps p.tables e below (T104.setTop (mkF m 62 #[.val (.int p0), .val (.int p1), .val (.int (2 : Int32)), .val (.int (2 : Int32)), .val (.ref wPARTIAL), .val (.ref wLOAD), .val (.int (0 : Int32))] [])) _
        refine XS.aload X104.here hx rfl (hb hby at_62) rfl rfl ?_
        show Steps p.tables e below (T104.setTop (mkF m 64 #[.val (.int p0), .val (.int p1), .val (.int (2 : Int32)), .val (.int (2 : Int32)), .val (.ref wPARTIAL), .val (.ref wLOAD), .val (.int (0 : Int32))] [(.ref wPARTIAL)])) _
        refine XS.aload X104.here hx rfl (hb hby at_64) rfl rfl ?_
        exact kt)
      rw [((by rw [f4]) : (f4 wPARTIAL wLOAD wCARD_ERROR wPARTIAL wBALANCE wCREATE wPAYMENT_ERROR wLOAD wNO_TOPUP wORDINARY wBALANCE_ERROR) = (0 : Int32))] at hQ106
      obtain ⟨rfl, N106q, e106⟩ := hQ106
      have N106 := Fr.app N104 N106q
      obtain ⟨fs, hr, hrun, hended, hW, hsame⟩ := X106.leave (v := some (.int (1 : Int32))) (fun h => by rw [Bd.returns] at h; cases h)
      refine ⟨_, _, k107 _ ?_, hrun, hended, _, _, rfl, ?_, ⟨_, rfl⟩, hW, hsame.mono (by decide) (by decide)⟩
      · show Steps p.tables e below (T104.setTop (mkF m 66 #[.val (.int p0), .val (.int p1), .val (.int (2 : Int32)), .val (.int (2 : Int32)), .val (.ref wPARTIAL), .val (.ref wLOAD), .val (.int (0 : Int32))] [(.ref wLOAD), (.ref wPARTIAL)])) _
        refine st106.trans ?_
        show Steps p.tables e below (T106.setTop (mkF m 69 #[.val (.int p0), .val (.int p1), .val (.int (2 : Int32)), .val (.int (2 : Int32)), .val (.ref wPARTIAL), .val (.ref wLOAD), .val (.int (0 : Int32))] [(.int (0 : Int32))])) _
        refine XS.iload X106.here hx rfl (hb hby at_69) rfl ?_
        show Steps p.tables e below (T106.setTop (mkF m 71 #[.val (.int p0), .val (.int p1), .val (.int (2 : Int32)), .val (.int (2 : Int32)), .val (.ref wPARTIAL), .val (.ref wLOAD), .val (.int (0 : Int32))] [(.int (0 : Int32)), (.int (0 : Int32))])) _
        refine XS.icmpNo X106.here hx rfl (hb hby at_71) rfl (teq (rfl : (0 : Int32) = (0 : Int32))).2 ?_
        show Steps p.tables e below (T106.setTop (mkF m 74 #[.val (.int p0), .val (.int p1), .val (.int (2 : Int32)), .val (.int (2 : Int32)), .val (.ref wPARTIAL), .val (.ref wLOAD), .val (.int (0 : Int32))] [])) _
        refine XS.iconst X106.here hx rfl (hb hby at_74) ?_
        show Steps p.tables e below (T106.setTop (mkF m 75 #[.val (.int p0), .val (.int p1), .val (.int (2 : Int32)), .val (.int (2 : Int32)), .val (.ref wPARTIAL), .val (.ref wLOAD), .val (.int (0 : Int32))] [(.int (1 : Int32))])) _
        refine XS.goto X106.here hx rfl (pc0 := 75) (pc' := 79) rfl (hb hby at_75) (by decide) (by decide) ?_
        show Steps p.tables e below (T106.setTop (mkF m 79 #[.val (.int p0), .val (.int p1), .val (.int (2 : Int32)), .val (.int (2 : Int32)), .val (.ref wPARTIAL), .val (.ref wLOAD), .val (.int (0 : Int32))] [(.int (1 : Int32))])) _
        exact retN X106 hx (t := .boolean) Bd.returns (by simp) (hb hby at_79) hr
      · show Q0 Z p0 p1 wCARD_ERROR wPARTIAL wBALANCE wCREATE wPAYMENT_ERROR wLOAD wNO_TOPUP wORDINARY wBALANCE_ERROR h0 n0 _ T106.heap _
        rw [e106]
        exact ⟨rfl, N106⟩
    · subst hv89
      obtain ⟨_, _, ⟨T108, L108, k108, n108⟩, -, X108, ⟨Lc108, hQ108, l108, y108, z108⟩, st108⟩ := Jvm.LawKit.callS X0 hx (y := (⟨"com/example/cardstand/cardstand/scenario/CardScenarioFailsPinLaw", "scenario", "(I)Lcom/example/cardstand/cardstand/scenario/CardScenario;"⟩ : MethodName)) hown (mvT hZ (hw _ (List.mem_of_getElem? (i := 1) rfl))) (mvT hZ (hw _ (List.mem_of_getElem? (i := 2) rfl))) (mvT hZ (hw _ (List.mem_of_getElem? (i := 3) rfl))) (mvT hZ (hw _ (List.mem_of_getElem? (i := 4) rfl))) (by decide) (backOf (W := 0) (rm1 l Z a0 hw [] (2 : Int32) wCARD_ERROR wPARTIAL wBALANCE wCREATE wPAYMENT_ERROR wLOAD wNO_TOPUP wORDINARY wBALANCE_ERROR h0 n0 Z0 W0 ) hZ (hw _ (List.mem_of_getElem? (i := 4) rfl)) (hw _ (List.mem_of_getElem? (i := 3) rfl)) (by decide) (by decide)) (g := (mkF m 16 #[.val (.int p0), .val (.int p1), .val (.int (2 : Int32)), .val (.int (3 : Int32)), .unset, .unset, .unset] [(.int (2 : Int32))])) rfl (by rw [hml]; rfl) (argsL := [(.int (2 : Int32))]) (rest := []) (lenOf pd_0 rfl) rfl (by show 2 * 0 + _ ≤ _; exact Nat.le_of_eq rfl) (hb hby at_16) (fun _ _ => ⟨rfl, e0, (by decide : 0 + 0 ≤ _), (by decide : 0 + 0 ≤ _)⟩)
      dsimp only [Pt.U, Pt.locs, Pt.cells, Pt.slots] at X108 l108 y108 z108 st108 hQ108
      subst l108 y108 z108
      unfold Q1 at hQ108
      have k109 : ∀ t, Steps p.tables e below (s₁.setTop (mkF m 16 #[.val (.int p0), .val (.int p1), .val (.int (2 : Int32)), .val (.int (3 : Int32)), .unset, .unset, .unset] [(.int (2 : Int32))])) t → Steps p.tables e below (s₁.setTop (entryFrame m #[(.int p0), (.int p1)] maxLocals)) t := fun t kt => k88 t (by
        show Steps p.tables e below (s₁.setTop (mkF m 15 #[.val (.int p0), .val (.int p1), .val (.int (2 : Int32)), .val (.int (3 : Int32)), .unset, .unset, .unset] [])) _
        refine XS.iloadN X0.here hx rfl (hb hby at_15) rfl ?_
        exact kt)
      rw [((by rw [f1, if_neg ((by decide) : ¬ ((2 : Int32) = (0 : Int32))), if_neg ((by decide) : ¬ ((2 : Int32) = (1 : Int32))), if_pos (rfl : (2 : Int32) = (2 : Int32))]) : (f1 (2 : Int32) wCARD_ERROR wPARTIAL wBALANCE wCREATE wPAYMENT_ERROR wLOAD wNO_TOPUP wORDINARY wBALANCE_ERROR) = wPARTIAL)] at hQ108
      obtain ⟨rfl, N108q, e108⟩ := hQ108
      have N108 := Fr.app N0 N108q
      obtain ⟨_, _, ⟨T110, L110, k110, n110⟩, -, X110, ⟨Lc110, hQ110, l110, y110, z110⟩, st110⟩ := Jvm.LawKit.callS X108 hx (y := (⟨"com/example/cardstand/cardstand/scenario/CardScenarioFailsPinLaw", "operation", "(I)Lcom/example/cardstand/cardstand/scenario/CardScenario$Operation;"⟩ : MethodName)) hown (mvT hZ (hw _ (List.mem_of_getElem? (i := 8) rfl))) (mvT hZ (hw _ (List.mem_of_getElem? (i := 9) rfl))) (mvT hZ (hw _ (List.mem_of_getElem? (i := 3) rfl))) (mvT hZ (hw _ (List.mem_of_getElem? (i := 10) rfl))) (by decide) (backOf (W := 0) (rm2 l Z a0 hw [] (3 : Int32) wCARD_ERROR wPARTIAL wBALANCE wCREATE wPAYMENT_ERROR wLOAD wNO_TOPUP wORDINARY wBALANCE_ERROR h0 n0 Z0 W0 ) hZ (hw _ (List.mem_of_getElem? (i := 10) rfl)) (hw _ (List.mem_of_getElem? (i := 3) rfl)) (by decide) (by decide)) (g := (mkF m 22 #[.val (.int p0), .val (.int p1), .val (.int (2 : Int32)), .val (.int (3 : Int32)), .val (.ref wPARTIAL), .unset, .unset] [(.int (3 : Int32))])) rfl (by rw [hml]; rfl) (argsL := [(.int (3 : Int32))]) (rest := []) (lenOf pd_1 rfl) rfl (by show 2 * 0 + _ ≤ _; exact Nat.le_of_eq rfl) (hb hby at_22) (fun _ _ => ⟨rfl, e108, (by decide : 0 + 0 ≤ _), (by decide : 0 + 0 ≤ _)⟩)
      dsimp only [Pt.U, Pt.locs, Pt.cells, Pt.slots] at X110 l110 y110 z110 st110 hQ110
      subst l110 y110 z110
      unfold Q2 at hQ110
      have k111 : ∀ t, Steps p.tables e below (T108.setTop (mkF m 22 #[.val (.int p0), .val (.int p1), .val (.int (2 : Int32)), .val (.int (3 : Int32)), .val (.ref wPARTIAL), .unset, .unset] [(.int (3 : Int32))])) t → Steps p.tables e below (s₁.setTop (entryFrame m #[(.int p0), (.int p1)] maxLocals)) t := fun t kt => k109 t (by
        show Steps p.tables e below (s₁.setTop (mkF m 16 #[.val (.int p0), .val (.int p1), .val (.int (2 : Int32)), .val (.int (3 : Int32)), .unset, .unset, .unset] [(.int (2 : Int32))])) _
        refine st108 _ ?_
        show Steps p.tables e below (T108.setTop (mkF m 19 #[.val (.int p0), .val (.int p1), .val (.int (2 : Int32)), .val (.int (3 : Int32)), .unset, .unset, .unset] [(.ref wPARTIAL)])) _
        refine XS.astore X108.here hx rfl (hb hby at_19) rfl rfl (l' := #[.val (.int p0), .val (.int p1), .val (.int (2 : Int32)), .val (.int (3 : Int32)), .val (.ref wPARTIAL), .unset, .unset]) rfl ?_
        show Steps p.tables e below (T108.setTop (mkF m 21 #[.val (.int p0), .val (.int p1), .val (.int (2 : Int32)), .val (.int (3 : Int32)), .val (.ref wPARTIAL), .unset, .unset] [])) _
        refine XS.iloadN X108.here hx rfl (hb hby at_21) rfl ?_
        exact kt)
      rw [((by rw [f2, if_neg ((by decide) : ¬ ((3 : Int32) = (0 : Int32))), if_neg ((by decide) : ¬ ((3 : Int32) = (1 : Int32))), if_neg ((by decide) : ¬ ((3 : Int32) = (2 : Int32)))]) : (f2 (3 : Int32) wCARD_ERROR wPARTIAL wBALANCE wCREATE wPAYMENT_ERROR wLOAD wNO_TOPUP wORDINARY wBALANCE_ERROR) = .null)] at hQ110
      obtain ⟨rfl, N110q, e110⟩ := hQ110
      have N110 := Fr.app N108 N110q
      obtain ⟨cq112, kq112, q112a, q112b, q112c⟩ := isOf hZ e110 EPARTIAL
      obtain ⟨_, _, ⟨T112, L112, k112, n112⟩, -, X112, ⟨Lc112, hQ112, l112, y112, z112⟩, st112⟩ := X110.virtualBack hx (y := (⟨"com/example/cardstand/cardstand/scenario/CardScenario", "fails", "(Lcom/example/cardstand/cardstand/scenario/CardScenario$Operation;)Z"⟩ : MethodName)) (z := (⟨"com/example/cardstand/cardstand/scenario/CardScenario", "fails", "(Lcom/example/cardstand/cardstand/scenario/CardScenario$Operation;)Z"⟩ : MethodName)) hown (mvT hZ (hw _ (List.mem_of_getElem? (i := 11) rfl))) (mvT hZ (hw _ (List.mem_of_getElem? (i := 12) rfl))) (notFace_of_selects (args := #[]) (mvT hZ (hw _ (List.mem_of_getElem? (i := 14) rfl)))) (mvT hZ (hw _ (List.mem_of_getElem? (i := 14) rfl))) (mvT hZ (hw _ (List.mem_of_getElem? (i := 13) rfl))) (by decide) (backOf (W := 0) (rm5 l Z a0 hw [] wPARTIAL wCARD_ERROR wPARTIAL wBALANCE wCREATE wPAYMENT_ERROR wLOAD wNO_TOPUP wORDINARY wBALANCE_ERROR h0 n0 Z0 W0 ) hZ (hw _ (List.mem_of_getElem? (i := 15) rfl)) (hw _ (List.mem_of_getElem? (i := 6) rfl)) (by decide) (by decide)) q112a q112c (g := (mkF m 66 #[.val (.int p0), .val (.int p1), .val (.int (2 : Int32)), .val (.int (3 : Int32)), .val (.ref wPARTIAL), .val .null, .val (.int (0 : Int32))] [.null, (.ref wPARTIAL)])) rfl (by rw [hml]; rfl) (Steps.refl _) (argsL := [.null]) (rest := []) (lenOf pd_2 rfl) rfl (by show 2 * 0 + _ ≤ _; exact Nat.le_of_eq rfl) (hb hby at_66) (fun _ _ => ⟨rfl, e110, (by decide : 0 + 0 ≤ _), (by decide : 0 + 0 ≤ _)⟩)
      dsimp only [Pt.U, Pt.locs, Pt.cells, Pt.slots] at X112 l112 y112 z112 st112 hQ112
      subst l112 y112 z112
      unfold Q5 at hQ112
      have k113 : ∀ t, Steps p.tables e below (T110.setTop (mkF m 66 #[.val (.int p0), .val (.int p1), .val (.int (2 : Int32)), .val (.int (3 : Int32)), .val (.ref wPARTIAL), .val .null, .val (.int (0 : Int32))] [.null, (.ref wPARTIAL)])) t → Steps p.tables e below (s₁.setTop (entryFrame m #[(.int p0), (.int p1)] maxLocals)) t := fun t kt => k111 t (by
        show Steps p.tables e below (T108.setTop (mkF m 22 #[.val (.int p0), .val (.int p1), .val (.int (2 : Int32)), .val (.int (3 : Int32)), .val (.ref wPARTIAL), .unset, .unset] [(.int (3 : Int32))])) _
        refine st110 _ ?_
        show Steps p.tables e below (T110.setTop (mkF m 25 #[.val (.int p0), .val (.int p1), .val (.int (2 : Int32)), .val (.int (3 : Int32)), .val (.ref wPARTIAL), .unset, .unset] [.null])) _
        refine XS.astore X110.here hx rfl (hb hby at_25) rfl rfl (l' := #[.val (.int p0), .val (.int p1), .val (.int (2 : Int32)), .val (.int (3 : Int32)), .val (.ref wPARTIAL), .val .null, .unset]) rfl ?_
        show Steps p.tables e below (T110.setTop (mkF m 27 #[.val (.int p0), .val (.int p1), .val (.int (2 : Int32)), .val (.int (3 : Int32)), .val (.ref wPARTIAL), .val .null, .unset] [])) _
        refine XS.iloadN X110.here hx rfl (hb hby at_27) rfl ?_
        show Steps p.tables e below (T110.setTop (mkF m 28 #[.val (.int p0), .val (.int p1), .val (.int (2 : Int32)), .val (.int (3 : Int32)), .val (.ref wPARTIAL), .val .null, .unset] [(.int (2 : Int32))])) _
        refine XS.ifYes X110.here hx rfl (pc0 := 28) (pc' := 35) rfl (hb hby at_28) rfl ((if0 _ _).trans (feq ((by decide) : ¬ ((2 : Int32) = (0 : Int32)))).2) (by decide) (by decide) ?_
        show Steps p.tables e below (T110.setTop (mkF m 35 #[.val (.int p0), .val (.int p1), .val (.int (2 : Int32)), .val (.int (3 : Int32)), .val (.ref wPARTIAL), .val .null, .unset] [])) _
        refine XS.iloadN X110.here hx rfl (hb hby at_35) rfl ?_
        show Steps p.tables e below (T110.setTop (mkF m 36 #[.val (.int p0), .val (.int p1), .val (.int (2 : Int32)), .val (.int (3 : Int32)), .val (.ref wPARTIAL), .val .null, .unset] [(.int (2 : Int32))])) _
        refine XS.iconst X110.here hx rfl (hb hby at_36) ?_
        show Steps p.tables e below (T110.setTop (mkF m 37 #[.val (.int p0), .val (.int p1), .val (.int (2 : Int32)), .val (.int (3 : Int32)), .val (.ref wPARTIAL), .val .null, .unset] [(.int (3 : Int32)), (.int (2 : Int32))])) _
        refine XS.icmpYes X110.here hx rfl (pc0 := 37) (pc' := 45) rfl (hb hby at_37) rfl (feq ((by decide) : ¬ ((2 : Int32) = (3 : Int32)))).2 (by decide) (by decide) ?_
        show Steps p.tables e below (T110.setTop (mkF m 45 #[.val (.int p0), .val (.int p1), .val (.int (2 : Int32)), .val (.int (3 : Int32)), .val (.ref wPARTIAL), .val .null, .unset] [])) _
        refine XS.iloadN X110.here hx rfl (hb hby at_45) rfl ?_
        show Steps p.tables e below (T110.setTop (mkF m 46 #[.val (.int p0), .val (.int p1), .val (.int (2 : Int32)), .val (.int (3 : Int32)), .val (.ref wPARTIAL), .val .null, .unset] [(.int (2 : Int32))])) _
        refine XS.iconst X110.here hx rfl (hb hby at_46) ?_
        show Steps p.tables e below (T110.setTop (mkF m 47 #[.val (.int p0), .val (.int p1), .val (.int (2 : Int32)), .val (.int (3 : Int32)), .val (.ref wPARTIAL), .val .null, .unset] [(.int (4 : Int32)), (.int (2 : Int32))])) _
        refine XS.icmpYes X110.here hx rfl (pc0 := 47) (pc' := 59) rfl (hb hby at_47) rfl (feq ((by decide) : ¬ ((2 : Int32) = (4 : Int32)))).2 (by decide) (by decide) ?_
        show Steps p.tables e below (T110.setTop (mkF m 59 #[.val (.int p0), .val (.int p1), .val (.int (2 : Int32)), .val (.int (3 : Int32)), .val (.ref wPARTIAL), .val .null, .unset] [])) _
        refine XS.iconst X110.here hx rfl (hb hby at_59) ?_
        show Steps p.tables e below (T110.setTop (mkF m 60 #[.val (.int p0), .val (.int p1), .val (.int (2 : Int32)), .val (.int (3 : Int32)), .val (.ref wPARTIAL), .val .null, .unset] [(.int (0 : Int32))])) _
        refine XS.istore X110.here hx rfl (hb hby at_60) rfl (l' := #[.val (.int p0), .val (.int p1), .val (.int (2 : Int32)), .val (.int (3 : Int32)), .val (.ref wPARTIAL), .val .null, .val (.int (0 : Int32))]) rfl ?_
        show Steps p.tables e below (T110.setTop (mkF m 62 #[.val (.int p0), .val (.int p1), .val (.int (2 : Int32)), .val (.int (3 : Int32)), .val (.ref wPARTIAL), .val .null, .val (.int (0 : Int32))] [])) _
        refine XS.aload X110.here hx rfl (hb hby at_62) rfl rfl ?_
        show Steps p.tables e below (T110.setTop (mkF m 64 #[.val (.int p0), .val (.int p1), .val (.int (2 : Int32)), .val (.int (3 : Int32)), .val (.ref wPARTIAL), .val .null, .val (.int (0 : Int32))] [(.ref wPARTIAL)])) _
        refine XS.aload X110.here hx rfl (hb hby at_64) rfl rfl ?_
        exact kt)
      rw [((by rw [f5]) : (f5 wPARTIAL wCARD_ERROR wPARTIAL wBALANCE wCREATE wPAYMENT_ERROR wLOAD wNO_TOPUP wORDINARY wBALANCE_ERROR) = (0 : Int32))] at hQ112
      obtain ⟨rfl, N112q, e112⟩ := hQ112
      have N112 := Fr.app N110 N112q
      obtain ⟨fs, hr, hrun, hended, hW, hsame⟩ := X112.leave (v := some (.int (1 : Int32))) (fun h => by rw [Bd.returns] at h; cases h)
      refine ⟨_, _, k113 _ ?_, hrun, hended, _, _, rfl, ?_, ⟨_, rfl⟩, hW, hsame.mono (by decide) (by decide)⟩
      · show Steps p.tables e below (T110.setTop (mkF m 66 #[.val (.int p0), .val (.int p1), .val (.int (2 : Int32)), .val (.int (3 : Int32)), .val (.ref wPARTIAL), .val .null, .val (.int (0 : Int32))] [.null, (.ref wPARTIAL)])) _
        refine st112.trans ?_
        show Steps p.tables e below (T112.setTop (mkF m 69 #[.val (.int p0), .val (.int p1), .val (.int (2 : Int32)), .val (.int (3 : Int32)), .val (.ref wPARTIAL), .val .null, .val (.int (0 : Int32))] [(.int (0 : Int32))])) _
        refine XS.iload X112.here hx rfl (hb hby at_69) rfl ?_
        show Steps p.tables e below (T112.setTop (mkF m 71 #[.val (.int p0), .val (.int p1), .val (.int (2 : Int32)), .val (.int (3 : Int32)), .val (.ref wPARTIAL), .val .null, .val (.int (0 : Int32))] [(.int (0 : Int32)), (.int (0 : Int32))])) _
        refine XS.icmpNo X112.here hx rfl (hb hby at_71) rfl (teq (rfl : (0 : Int32) = (0 : Int32))).2 ?_
        show Steps p.tables e below (T112.setTop (mkF m 74 #[.val (.int p0), .val (.int p1), .val (.int (2 : Int32)), .val (.int (3 : Int32)), .val (.ref wPARTIAL), .val .null, .val (.int (0 : Int32))] [])) _
        refine XS.iconst X112.here hx rfl (hb hby at_74) ?_
        show Steps p.tables e below (T112.setTop (mkF m 75 #[.val (.int p0), .val (.int p1), .val (.int (2 : Int32)), .val (.int (3 : Int32)), .val (.ref wPARTIAL), .val .null, .val (.int (0 : Int32))] [(.int (1 : Int32))])) _
        refine XS.goto X112.here hx rfl (pc0 := 75) (pc' := 79) rfl (hb hby at_75) (by decide) (by decide) ?_
        show Steps p.tables e below (T112.setTop (mkF m 79 #[.val (.int p0), .val (.int p1), .val (.int (2 : Int32)), .val (.int (3 : Int32)), .val (.ref wPARTIAL), .val .null, .val (.int (0 : Int32))] [(.int (1 : Int32))])) _
        exact retN X112 hx (t := .boolean) Bd.returns (by simp) (hb hby at_79) hr
      · show Q0 Z p0 p1 wCARD_ERROR wPARTIAL wBALANCE wCREATE wPAYMENT_ERROR wLOAD wNO_TOPUP wORDINARY wBALANCE_ERROR h0 n0 _ T112.heap _
        rw [e112]
        exact ⟨rfl, N112⟩
  · subst hv32
    obtain ⟨i114, hi114⟩ : ∃ z, z = ((p1 &&& (2147483647 : Int32)) % (4 : Int32)) := ⟨_, rfl⟩
    have k115 : ∀ t, Steps p.tables e below (s₁.setTop (mkF m 15 #[.val (.int p0), .val (.int p1), .val (.int (3 : Int32)), .val (.int i114), .unset, .unset, .unset] [])) t → Steps p.tables e below (s₁.setTop (entryFrame m #[(.int p0), (.int p1)] maxLocals)) t := fun t kt => k31 t (by
      show Steps p.tables e below (s₁.setTop (mkF m 8 #[.val (.int p0), .val (.int p1), .val (.int (3 : Int32)), .unset, .unset, .unset, .unset] [])) _
      refine XS.iloadN X0.here hx rfl (hb hby at_8) rfl ?_
      show Steps p.tables e below (s₁.setTop (mkF m 9 #[.val (.int p0), .val (.int p1), .val (.int (3 : Int32)), .unset, .unset, .unset, .unset] [(.int p1)])) _
      refine X0.ldcInt hx hown (mvT hZ (hw _ (List.mem_of_getElem? (i := 0) rfl))) (g := (mkF m 9 #[.val (.int p0), .val (.int p1), .val (.int (3 : Int32)), .unset, .unset, .unset, .unset] [(.int p1)])) rfl (hb hby at_9) _ ?_
      show Steps p.tables e below (s₁.setTop (mkF m 11 #[.val (.int p0), .val (.int p1), .val (.int (3 : Int32)), .unset, .unset, .unset, .unset] [(.int (2147483647 : Int32)), (.int p1)])) _
      refine XS.iand X0.here hx rfl (hb hby at_11) rfl ?_
      show Steps p.tables e below (s₁.setTop (mkF m 12 #[.val (.int p0), .val (.int p1), .val (.int (3 : Int32)), .unset, .unset, .unset, .unset] [(.int (p1 &&& (2147483647 : Int32)))])) _
      refine XS.iconst X0.here hx rfl (hb hby at_12) ?_
      show Steps p.tables e below (s₁.setTop (mkF m 13 #[.val (.int p0), .val (.int p1), .val (.int (3 : Int32)), .unset, .unset, .unset, .unset] [(.int (4 : Int32)), (.int (p1 &&& (2147483647 : Int32)))])) _
      refine iremM X0 hx rfl (hb hby at_13) rfl (by decide) ?_
      rw [← hi114]
      show Steps p.tables e below (s₁.setTop (mkF m 14 #[.val (.int p0), .val (.int p1), .val (.int (3 : Int32)), .unset, .unset, .unset, .unset] [(.int i114)])) _
      refine XS.istoreN X0.here hx rfl (hb hby at_14) rfl (l' := #[.val (.int p0), .val (.int p1), .val (.int (3 : Int32)), .val (.int i114), .unset, .unset, .unset]) rfl ?_
      exact kt)
    rcases own_cases4 hi114 with hv116 | hv116 | hv116 | hv116
    · subst hv116
      obtain ⟨_, _, ⟨T117, L117, k117, n117⟩, -, X117, ⟨Lc117, hQ117, l117, y117, z117⟩, st117⟩ := Jvm.LawKit.callS X0 hx (y := (⟨"com/example/cardstand/cardstand/scenario/CardScenarioFailsPinLaw", "scenario", "(I)Lcom/example/cardstand/cardstand/scenario/CardScenario;"⟩ : MethodName)) hown (mvT hZ (hw _ (List.mem_of_getElem? (i := 1) rfl))) (mvT hZ (hw _ (List.mem_of_getElem? (i := 2) rfl))) (mvT hZ (hw _ (List.mem_of_getElem? (i := 3) rfl))) (mvT hZ (hw _ (List.mem_of_getElem? (i := 4) rfl))) (by decide) (backOf (W := 0) (rm1 l Z a0 hw [] (3 : Int32) wCARD_ERROR wPARTIAL wBALANCE wCREATE wPAYMENT_ERROR wLOAD wNO_TOPUP wORDINARY wBALANCE_ERROR h0 n0 Z0 W0 ) hZ (hw _ (List.mem_of_getElem? (i := 4) rfl)) (hw _ (List.mem_of_getElem? (i := 3) rfl)) (by decide) (by decide)) (g := (mkF m 16 #[.val (.int p0), .val (.int p1), .val (.int (3 : Int32)), .val (.int (0 : Int32)), .unset, .unset, .unset] [(.int (3 : Int32))])) rfl (by rw [hml]; rfl) (argsL := [(.int (3 : Int32))]) (rest := []) (lenOf pd_0 rfl) rfl (by show 2 * 0 + _ ≤ _; exact Nat.le_of_eq rfl) (hb hby at_16) (fun _ _ => ⟨rfl, e0, (by decide : 0 + 0 ≤ _), (by decide : 0 + 0 ≤ _)⟩)
      dsimp only [Pt.U, Pt.locs, Pt.cells, Pt.slots] at X117 l117 y117 z117 st117 hQ117
      subst l117 y117 z117
      unfold Q1 at hQ117
      have k118 : ∀ t, Steps p.tables e below (s₁.setTop (mkF m 16 #[.val (.int p0), .val (.int p1), .val (.int (3 : Int32)), .val (.int (0 : Int32)), .unset, .unset, .unset] [(.int (3 : Int32))])) t → Steps p.tables e below (s₁.setTop (entryFrame m #[(.int p0), (.int p1)] maxLocals)) t := fun t kt => k115 t (by
        show Steps p.tables e below (s₁.setTop (mkF m 15 #[.val (.int p0), .val (.int p1), .val (.int (3 : Int32)), .val (.int (0 : Int32)), .unset, .unset, .unset] [])) _
        refine XS.iloadN X0.here hx rfl (hb hby at_15) rfl ?_
        exact kt)
      rw [((by rw [f1, if_neg ((by decide) : ¬ ((3 : Int32) = (0 : Int32))), if_neg ((by decide) : ¬ ((3 : Int32) = (1 : Int32))), if_neg ((by decide) : ¬ ((3 : Int32) = (2 : Int32))), if_pos (rfl : (3 : Int32) = (3 : Int32))]) : (f1 (3 : Int32) wCARD_ERROR wPARTIAL wBALANCE wCREATE wPAYMENT_ERROR wLOAD wNO_TOPUP wORDINARY wBALANCE_ERROR) = wBALANCE_ERROR)] at hQ117
      obtain ⟨rfl, N117q, e117⟩ := hQ117
      have N117 := Fr.app N0 N117q
      obtain ⟨_, _, ⟨T119, L119, k119, n119⟩, -, X119, ⟨Lc119, hQ119, l119, y119, z119⟩, st119⟩ := Jvm.LawKit.callS X117 hx (y := (⟨"com/example/cardstand/cardstand/scenario/CardScenarioFailsPinLaw", "operation", "(I)Lcom/example/cardstand/cardstand/scenario/CardScenario$Operation;"⟩ : MethodName)) hown (mvT hZ (hw _ (List.mem_of_getElem? (i := 8) rfl))) (mvT hZ (hw _ (List.mem_of_getElem? (i := 9) rfl))) (mvT hZ (hw _ (List.mem_of_getElem? (i := 3) rfl))) (mvT hZ (hw _ (List.mem_of_getElem? (i := 10) rfl))) (by decide) (backOf (W := 0) (rm2 l Z a0 hw [] (0 : Int32) wCARD_ERROR wPARTIAL wBALANCE wCREATE wPAYMENT_ERROR wLOAD wNO_TOPUP wORDINARY wBALANCE_ERROR h0 n0 Z0 W0 ) hZ (hw _ (List.mem_of_getElem? (i := 10) rfl)) (hw _ (List.mem_of_getElem? (i := 3) rfl)) (by decide) (by decide)) (g := (mkF m 22 #[.val (.int p0), .val (.int p1), .val (.int (3 : Int32)), .val (.int (0 : Int32)), .val (.ref wBALANCE_ERROR), .unset, .unset] [(.int (0 : Int32))])) rfl (by rw [hml]; rfl) (argsL := [(.int (0 : Int32))]) (rest := []) (lenOf pd_1 rfl) rfl (by show 2 * 0 + _ ≤ _; exact Nat.le_of_eq rfl) (hb hby at_22) (fun _ _ => ⟨rfl, e117, (by decide : 0 + 0 ≤ _), (by decide : 0 + 0 ≤ _)⟩)
      dsimp only [Pt.U, Pt.locs, Pt.cells, Pt.slots] at X119 l119 y119 z119 st119 hQ119
      subst l119 y119 z119
      unfold Q2 at hQ119
      have k120 : ∀ t, Steps p.tables e below (T117.setTop (mkF m 22 #[.val (.int p0), .val (.int p1), .val (.int (3 : Int32)), .val (.int (0 : Int32)), .val (.ref wBALANCE_ERROR), .unset, .unset] [(.int (0 : Int32))])) t → Steps p.tables e below (s₁.setTop (entryFrame m #[(.int p0), (.int p1)] maxLocals)) t := fun t kt => k118 t (by
        show Steps p.tables e below (s₁.setTop (mkF m 16 #[.val (.int p0), .val (.int p1), .val (.int (3 : Int32)), .val (.int (0 : Int32)), .unset, .unset, .unset] [(.int (3 : Int32))])) _
        refine st117 _ ?_
        show Steps p.tables e below (T117.setTop (mkF m 19 #[.val (.int p0), .val (.int p1), .val (.int (3 : Int32)), .val (.int (0 : Int32)), .unset, .unset, .unset] [(.ref wBALANCE_ERROR)])) _
        refine XS.astore X117.here hx rfl (hb hby at_19) rfl rfl (l' := #[.val (.int p0), .val (.int p1), .val (.int (3 : Int32)), .val (.int (0 : Int32)), .val (.ref wBALANCE_ERROR), .unset, .unset]) rfl ?_
        show Steps p.tables e below (T117.setTop (mkF m 21 #[.val (.int p0), .val (.int p1), .val (.int (3 : Int32)), .val (.int (0 : Int32)), .val (.ref wBALANCE_ERROR), .unset, .unset] [])) _
        refine XS.iloadN X117.here hx rfl (hb hby at_21) rfl ?_
        exact kt)
      rw [((by rw [f2, if_pos (rfl : (0 : Int32) = (0 : Int32))]) : (f2 (0 : Int32) wCARD_ERROR wPARTIAL wBALANCE wCREATE wPAYMENT_ERROR wLOAD wNO_TOPUP wORDINARY wBALANCE_ERROR) = (.ref wCREATE))] at hQ119
      obtain ⟨rfl, N119q, e119⟩ := hQ119
      have N119 := Fr.app N117 N119q
      obtain ⟨cq121, kq121, q121a, q121b, q121c⟩ := isOf hZ e119 EBALANCE_ERROR
      obtain ⟨_, _, ⟨T121, L121, k121, n121⟩, -, X121, ⟨Lc121, hQ121, l121, y121, z121⟩, st121⟩ := X119.virtualBack hx (y := (⟨"com/example/cardstand/cardstand/scenario/CardScenario", "fails", "(Lcom/example/cardstand/cardstand/scenario/CardScenario$Operation;)Z"⟩ : MethodName)) (z := (⟨"com/example/cardstand/cardstand/scenario/CardScenario", "fails", "(Lcom/example/cardstand/cardstand/scenario/CardScenario$Operation;)Z"⟩ : MethodName)) hown (mvT hZ (hw _ (List.mem_of_getElem? (i := 11) rfl))) (mvT hZ (hw _ (List.mem_of_getElem? (i := 12) rfl))) (notFace_of_selects (args := #[]) (mvT hZ (hw _ (List.mem_of_getElem? (i := 14) rfl)))) (mvT hZ (hw _ (List.mem_of_getElem? (i := 14) rfl))) (mvT hZ (hw _ (List.mem_of_getElem? (i := 13) rfl))) (by decide) (backOf (W := 0) (rm3 l Z a0 hw [] wBALANCE_ERROR wCREATE wBALANCE wCARD_ERROR wPARTIAL wBALANCE wCREATE wPAYMENT_ERROR wLOAD wNO_TOPUP wORDINARY wBALANCE_ERROR h0 n0 Z0 W0 FBALANCE_ERROR_failing) hZ (hw _ (List.mem_of_getElem? (i := 15) rfl)) (hw _ (List.mem_of_getElem? (i := 6) rfl)) (by decide) (by decide)) q121a q121c (g := (mkF m 66 #[.val (.int p0), .val (.int p1), .val (.int (3 : Int32)), .val (.int (0 : Int32)), .val (.ref wBALANCE_ERROR), .val (.ref wCREATE), .val (.int (0 : Int32))] [(.ref wCREATE), (.ref wBALANCE_ERROR)])) rfl (by rw [hml]; rfl) (Steps.refl _) (argsL := [(.ref wCREATE)]) (rest := []) (lenOf pd_2 rfl) rfl (by show 2 * 0 + _ ≤ _; exact Nat.le_of_eq rfl) (hb hby at_66) (fun _ _ => ⟨rfl, e119, (by decide : 0 + 0 ≤ _), (by decide : 0 + 0 ≤ _)⟩)
      dsimp only [Pt.U, Pt.locs, Pt.cells, Pt.slots] at X121 l121 y121 z121 st121 hQ121
      subst l121 y121 z121
      unfold Q3 at hQ121
      have k122 : ∀ t, Steps p.tables e below (T119.setTop (mkF m 66 #[.val (.int p0), .val (.int p1), .val (.int (3 : Int32)), .val (.int (0 : Int32)), .val (.ref wBALANCE_ERROR), .val (.ref wCREATE), .val (.int (0 : Int32))] [(.ref wCREATE), (.ref wBALANCE_ERROR)])) t → Steps p.tables e below (s₁.setTop (entryFrame m #[(.int p0), (.int p1)] maxLocals)) t := fun t kt => k120 t (by
        show Steps p.tables e below (T117.setTop (mkF m 22 #[.val (.int p0), .val (.int p1), .val (.int (3 : Int32)), .val (.int (0 : Int32)), .val (.ref wBALANCE_ERROR), .unset, .unset] [(.int (0 : Int32))])) _
        refine st119 _ ?_
        show Steps p.tables e below (T119.setTop (mkF m 25 #[.val (.int p0), .val (.int p1), .val (.int (3 : Int32)), .val (.int (0 : Int32)), .val (.ref wBALANCE_ERROR), .unset, .unset] [(.ref wCREATE)])) _
        refine XS.astore X119.here hx rfl (hb hby at_25) rfl rfl (l' := #[.val (.int p0), .val (.int p1), .val (.int (3 : Int32)), .val (.int (0 : Int32)), .val (.ref wBALANCE_ERROR), .val (.ref wCREATE), .unset]) rfl ?_
        show Steps p.tables e below (T119.setTop (mkF m 27 #[.val (.int p0), .val (.int p1), .val (.int (3 : Int32)), .val (.int (0 : Int32)), .val (.ref wBALANCE_ERROR), .val (.ref wCREATE), .unset] [])) _
        refine XS.iloadN X119.here hx rfl (hb hby at_27) rfl ?_
        show Steps p.tables e below (T119.setTop (mkF m 28 #[.val (.int p0), .val (.int p1), .val (.int (3 : Int32)), .val (.int (0 : Int32)), .val (.ref wBALANCE_ERROR), .val (.ref wCREATE), .unset] [(.int (3 : Int32))])) _
        refine XS.ifYes X119.here hx rfl (pc0 := 28) (pc' := 35) rfl (hb hby at_28) rfl ((if0 _ _).trans (feq ((by decide) : ¬ ((3 : Int32) = (0 : Int32)))).2) (by decide) (by decide) ?_
        show Steps p.tables e below (T119.setTop (mkF m 35 #[.val (.int p0), .val (.int p1), .val (.int (3 : Int32)), .val (.int (0 : Int32)), .val (.ref wBALANCE_ERROR), .val (.ref wCREATE), .unset] [])) _
        refine XS.iloadN X119.here hx rfl (hb hby at_35) rfl ?_
        show Steps p.tables e below (T119.setTop (mkF m 36 #[.val (.int p0), .val (.int p1), .val (.int (3 : Int32)), .val (.int (0 : Int32)), .val (.ref wBALANCE_ERROR), .val (.ref wCREATE), .unset] [(.int (3 : Int32))])) _
        refine XS.iconst X119.here hx rfl (hb hby at_36) ?_
        show Steps p.tables e below (T119.setTop (mkF m 37 #[.val (.int p0), .val (.int p1), .val (.int (3 : Int32)), .val (.int (0 : Int32)), .val (.ref wBALANCE_ERROR), .val (.ref wCREATE), .unset] [(.int (3 : Int32)), (.int (3 : Int32))])) _
        refine XS.icmpNo X119.here hx rfl (hb hby at_37) rfl (teq (rfl : (3 : Int32) = (3 : Int32))).2 ?_
        show Steps p.tables e below (T119.setTop (mkF m 40 #[.val (.int p0), .val (.int p1), .val (.int (3 : Int32)), .val (.int (0 : Int32)), .val (.ref wBALANCE_ERROR), .val (.ref wCREATE), .unset] [])) _
        refine XS.iloadN X119.here hx rfl (hb hby at_40) rfl ?_
        show Steps p.tables e below (T119.setTop (mkF m 41 #[.val (.int p0), .val (.int p1), .val (.int (3 : Int32)), .val (.int (0 : Int32)), .val (.ref wBALANCE_ERROR), .val (.ref wCREATE), .unset] [(.int (0 : Int32))])) _
        refine XS.iconst X119.here hx rfl (hb hby at_41) ?_
        show Steps p.tables e below (T119.setTop (mkF m 42 #[.val (.int p0), .val (.int p1), .val (.int (3 : Int32)), .val (.int (0 : Int32)), .val (.ref wBALANCE_ERROR), .val (.ref wCREATE), .unset] [(.int (1 : Int32)), (.int (0 : Int32))])) _
        refine XS.icmpNo X119.here hx rfl (hb hby at_42) rfl (feq ((by decide) : ¬ ((0 : Int32) = (1 : Int32)))).1 ?_
        show Steps p.tables e below (T119.setTop (mkF m 45 #[.val (.int p0), .val (.int p1), .val (.int (3 : Int32)), .val (.int (0 : Int32)), .val (.ref wBALANCE_ERROR), .val (.ref wCREATE), .unset] [])) _
        refine XS.iloadN X119.here hx rfl (hb hby at_45) rfl ?_
        show Steps p.tables e below (T119.setTop (mkF m 46 #[.val (.int p0), .val (.int p1), .val (.int (3 : Int32)), .val (.int (0 : Int32)), .val (.ref wBALANCE_ERROR), .val (.ref wCREATE), .unset] [(.int (3 : Int32))])) _
        refine XS.iconst X119.here hx rfl (hb hby at_46) ?_
        show Steps p.tables e below (T119.setTop (mkF m 47 #[.val (.int p0), .val (.int p1), .val (.int (3 : Int32)), .val (.int (0 : Int32)), .val (.ref wBALANCE_ERROR), .val (.ref wCREATE), .unset] [(.int (4 : Int32)), (.int (3 : Int32))])) _
        refine XS.icmpYes X119.here hx rfl (pc0 := 47) (pc' := 59) rfl (hb hby at_47) rfl (feq ((by decide) : ¬ ((3 : Int32) = (4 : Int32)))).2 (by decide) (by decide) ?_
        show Steps p.tables e below (T119.setTop (mkF m 59 #[.val (.int p0), .val (.int p1), .val (.int (3 : Int32)), .val (.int (0 : Int32)), .val (.ref wBALANCE_ERROR), .val (.ref wCREATE), .unset] [])) _
        refine XS.iconst X119.here hx rfl (hb hby at_59) ?_
        show Steps p.tables e below (T119.setTop (mkF m 60 #[.val (.int p0), .val (.int p1), .val (.int (3 : Int32)), .val (.int (0 : Int32)), .val (.ref wBALANCE_ERROR), .val (.ref wCREATE), .unset] [(.int (0 : Int32))])) _
        refine XS.istore X119.here hx rfl (hb hby at_60) rfl (l' := #[.val (.int p0), .val (.int p1), .val (.int (3 : Int32)), .val (.int (0 : Int32)), .val (.ref wBALANCE_ERROR), .val (.ref wCREATE), .val (.int (0 : Int32))]) rfl ?_
        show Steps p.tables e below (T119.setTop (mkF m 62 #[.val (.int p0), .val (.int p1), .val (.int (3 : Int32)), .val (.int (0 : Int32)), .val (.ref wBALANCE_ERROR), .val (.ref wCREATE), .val (.int (0 : Int32))] [])) _
        refine XS.aload X119.here hx rfl (hb hby at_62) rfl rfl ?_
        show Steps p.tables e below (T119.setTop (mkF m 64 #[.val (.int p0), .val (.int p1), .val (.int (3 : Int32)), .val (.int (0 : Int32)), .val (.ref wBALANCE_ERROR), .val (.ref wCREATE), .val (.int (0 : Int32))] [(.ref wBALANCE_ERROR)])) _
        refine XS.aload X119.here hx rfl (hb hby at_64) rfl rfl ?_
        exact kt)
      rw [((by rw [f3, if_neg ((Fld.ne FCREATE_ordinal FBALANCE_ordinal (by decide)) : ¬ (wCREATE = wBALANCE))]) : (f3 wBALANCE_ERROR wCREATE wBALANCE wCARD_ERROR wPARTIAL wBALANCE wCREATE wPAYMENT_ERROR wLOAD wNO_TOPUP wORDINARY wBALANCE_ERROR) = (0 : Int32))] at hQ121
      obtain ⟨rfl, N121q, e121⟩ := hQ121
      have N121 := Fr.app N119 N121q
      obtain ⟨fs, hr, hrun, hended, hW, hsame⟩ := X121.leave (v := some (.int (1 : Int32))) (fun h => by rw [Bd.returns] at h; cases h)
      refine ⟨_, _, k122 _ ?_, hrun, hended, _, _, rfl, ?_, ⟨_, rfl⟩, hW, hsame.mono (by decide) (by decide)⟩
      · show Steps p.tables e below (T119.setTop (mkF m 66 #[.val (.int p0), .val (.int p1), .val (.int (3 : Int32)), .val (.int (0 : Int32)), .val (.ref wBALANCE_ERROR), .val (.ref wCREATE), .val (.int (0 : Int32))] [(.ref wCREATE), (.ref wBALANCE_ERROR)])) _
        refine st121.trans ?_
        show Steps p.tables e below (T121.setTop (mkF m 69 #[.val (.int p0), .val (.int p1), .val (.int (3 : Int32)), .val (.int (0 : Int32)), .val (.ref wBALANCE_ERROR), .val (.ref wCREATE), .val (.int (0 : Int32))] [(.int (0 : Int32))])) _
        refine XS.iload X121.here hx rfl (hb hby at_69) rfl ?_
        show Steps p.tables e below (T121.setTop (mkF m 71 #[.val (.int p0), .val (.int p1), .val (.int (3 : Int32)), .val (.int (0 : Int32)), .val (.ref wBALANCE_ERROR), .val (.ref wCREATE), .val (.int (0 : Int32))] [(.int (0 : Int32)), (.int (0 : Int32))])) _
        refine XS.icmpNo X121.here hx rfl (hb hby at_71) rfl (teq (rfl : (0 : Int32) = (0 : Int32))).2 ?_
        show Steps p.tables e below (T121.setTop (mkF m 74 #[.val (.int p0), .val (.int p1), .val (.int (3 : Int32)), .val (.int (0 : Int32)), .val (.ref wBALANCE_ERROR), .val (.ref wCREATE), .val (.int (0 : Int32))] [])) _
        refine XS.iconst X121.here hx rfl (hb hby at_74) ?_
        show Steps p.tables e below (T121.setTop (mkF m 75 #[.val (.int p0), .val (.int p1), .val (.int (3 : Int32)), .val (.int (0 : Int32)), .val (.ref wBALANCE_ERROR), .val (.ref wCREATE), .val (.int (0 : Int32))] [(.int (1 : Int32))])) _
        refine XS.goto X121.here hx rfl (pc0 := 75) (pc' := 79) rfl (hb hby at_75) (by decide) (by decide) ?_
        show Steps p.tables e below (T121.setTop (mkF m 79 #[.val (.int p0), .val (.int p1), .val (.int (3 : Int32)), .val (.int (0 : Int32)), .val (.ref wBALANCE_ERROR), .val (.ref wCREATE), .val (.int (0 : Int32))] [(.int (1 : Int32))])) _
        exact retN X121 hx (t := .boolean) Bd.returns (by simp) (hb hby at_79) hr
      · show Q0 Z p0 p1 wCARD_ERROR wPARTIAL wBALANCE wCREATE wPAYMENT_ERROR wLOAD wNO_TOPUP wORDINARY wBALANCE_ERROR h0 n0 _ T121.heap _
        rw [e121]
        exact ⟨rfl, N121⟩
    · subst hv116
      obtain ⟨_, _, ⟨T123, L123, k123, n123⟩, -, X123, ⟨Lc123, hQ123, l123, y123, z123⟩, st123⟩ := Jvm.LawKit.callS X0 hx (y := (⟨"com/example/cardstand/cardstand/scenario/CardScenarioFailsPinLaw", "scenario", "(I)Lcom/example/cardstand/cardstand/scenario/CardScenario;"⟩ : MethodName)) hown (mvT hZ (hw _ (List.mem_of_getElem? (i := 1) rfl))) (mvT hZ (hw _ (List.mem_of_getElem? (i := 2) rfl))) (mvT hZ (hw _ (List.mem_of_getElem? (i := 3) rfl))) (mvT hZ (hw _ (List.mem_of_getElem? (i := 4) rfl))) (by decide) (backOf (W := 0) (rm1 l Z a0 hw [] (3 : Int32) wCARD_ERROR wPARTIAL wBALANCE wCREATE wPAYMENT_ERROR wLOAD wNO_TOPUP wORDINARY wBALANCE_ERROR h0 n0 Z0 W0 ) hZ (hw _ (List.mem_of_getElem? (i := 4) rfl)) (hw _ (List.mem_of_getElem? (i := 3) rfl)) (by decide) (by decide)) (g := (mkF m 16 #[.val (.int p0), .val (.int p1), .val (.int (3 : Int32)), .val (.int (1 : Int32)), .unset, .unset, .unset] [(.int (3 : Int32))])) rfl (by rw [hml]; rfl) (argsL := [(.int (3 : Int32))]) (rest := []) (lenOf pd_0 rfl) rfl (by show 2 * 0 + _ ≤ _; exact Nat.le_of_eq rfl) (hb hby at_16) (fun _ _ => ⟨rfl, e0, (by decide : 0 + 0 ≤ _), (by decide : 0 + 0 ≤ _)⟩)
      dsimp only [Pt.U, Pt.locs, Pt.cells, Pt.slots] at X123 l123 y123 z123 st123 hQ123
      subst l123 y123 z123
      unfold Q1 at hQ123
      have k124 : ∀ t, Steps p.tables e below (s₁.setTop (mkF m 16 #[.val (.int p0), .val (.int p1), .val (.int (3 : Int32)), .val (.int (1 : Int32)), .unset, .unset, .unset] [(.int (3 : Int32))])) t → Steps p.tables e below (s₁.setTop (entryFrame m #[(.int p0), (.int p1)] maxLocals)) t := fun t kt => k115 t (by
        show Steps p.tables e below (s₁.setTop (mkF m 15 #[.val (.int p0), .val (.int p1), .val (.int (3 : Int32)), .val (.int (1 : Int32)), .unset, .unset, .unset] [])) _
        refine XS.iloadN X0.here hx rfl (hb hby at_15) rfl ?_
        exact kt)
      rw [((by rw [f1, if_neg ((by decide) : ¬ ((3 : Int32) = (0 : Int32))), if_neg ((by decide) : ¬ ((3 : Int32) = (1 : Int32))), if_neg ((by decide) : ¬ ((3 : Int32) = (2 : Int32))), if_pos (rfl : (3 : Int32) = (3 : Int32))]) : (f1 (3 : Int32) wCARD_ERROR wPARTIAL wBALANCE wCREATE wPAYMENT_ERROR wLOAD wNO_TOPUP wORDINARY wBALANCE_ERROR) = wBALANCE_ERROR)] at hQ123
      obtain ⟨rfl, N123q, e123⟩ := hQ123
      have N123 := Fr.app N0 N123q
      obtain ⟨_, _, ⟨T125, L125, k125, n125⟩, -, X125, ⟨Lc125, hQ125, l125, y125, z125⟩, st125⟩ := Jvm.LawKit.callS X123 hx (y := (⟨"com/example/cardstand/cardstand/scenario/CardScenarioFailsPinLaw", "operation", "(I)Lcom/example/cardstand/cardstand/scenario/CardScenario$Operation;"⟩ : MethodName)) hown (mvT hZ (hw _ (List.mem_of_getElem? (i := 8) rfl))) (mvT hZ (hw _ (List.mem_of_getElem? (i := 9) rfl))) (mvT hZ (hw _ (List.mem_of_getElem? (i := 3) rfl))) (mvT hZ (hw _ (List.mem_of_getElem? (i := 10) rfl))) (by decide) (backOf (W := 0) (rm2 l Z a0 hw [] (1 : Int32) wCARD_ERROR wPARTIAL wBALANCE wCREATE wPAYMENT_ERROR wLOAD wNO_TOPUP wORDINARY wBALANCE_ERROR h0 n0 Z0 W0 ) hZ (hw _ (List.mem_of_getElem? (i := 10) rfl)) (hw _ (List.mem_of_getElem? (i := 3) rfl)) (by decide) (by decide)) (g := (mkF m 22 #[.val (.int p0), .val (.int p1), .val (.int (3 : Int32)), .val (.int (1 : Int32)), .val (.ref wBALANCE_ERROR), .unset, .unset] [(.int (1 : Int32))])) rfl (by rw [hml]; rfl) (argsL := [(.int (1 : Int32))]) (rest := []) (lenOf pd_1 rfl) rfl (by show 2 * 0 + _ ≤ _; exact Nat.le_of_eq rfl) (hb hby at_22) (fun _ _ => ⟨rfl, e123, (by decide : 0 + 0 ≤ _), (by decide : 0 + 0 ≤ _)⟩)
      dsimp only [Pt.U, Pt.locs, Pt.cells, Pt.slots] at X125 l125 y125 z125 st125 hQ125
      subst l125 y125 z125
      unfold Q2 at hQ125
      have k126 : ∀ t, Steps p.tables e below (T123.setTop (mkF m 22 #[.val (.int p0), .val (.int p1), .val (.int (3 : Int32)), .val (.int (1 : Int32)), .val (.ref wBALANCE_ERROR), .unset, .unset] [(.int (1 : Int32))])) t → Steps p.tables e below (s₁.setTop (entryFrame m #[(.int p0), (.int p1)] maxLocals)) t := fun t kt => k124 t (by
        show Steps p.tables e below (s₁.setTop (mkF m 16 #[.val (.int p0), .val (.int p1), .val (.int (3 : Int32)), .val (.int (1 : Int32)), .unset, .unset, .unset] [(.int (3 : Int32))])) _
        refine st123 _ ?_
        show Steps p.tables e below (T123.setTop (mkF m 19 #[.val (.int p0), .val (.int p1), .val (.int (3 : Int32)), .val (.int (1 : Int32)), .unset, .unset, .unset] [(.ref wBALANCE_ERROR)])) _
        refine XS.astore X123.here hx rfl (hb hby at_19) rfl rfl (l' := #[.val (.int p0), .val (.int p1), .val (.int (3 : Int32)), .val (.int (1 : Int32)), .val (.ref wBALANCE_ERROR), .unset, .unset]) rfl ?_
        show Steps p.tables e below (T123.setTop (mkF m 21 #[.val (.int p0), .val (.int p1), .val (.int (3 : Int32)), .val (.int (1 : Int32)), .val (.ref wBALANCE_ERROR), .unset, .unset] [])) _
        refine XS.iloadN X123.here hx rfl (hb hby at_21) rfl ?_
        exact kt)
      rw [((by rw [f2, if_neg ((by decide) : ¬ ((1 : Int32) = (0 : Int32))), if_pos (rfl : (1 : Int32) = (1 : Int32))]) : (f2 (1 : Int32) wCARD_ERROR wPARTIAL wBALANCE wCREATE wPAYMENT_ERROR wLOAD wNO_TOPUP wORDINARY wBALANCE_ERROR) = (.ref wBALANCE))] at hQ125
      obtain ⟨rfl, N125q, e125⟩ := hQ125
      have N125 := Fr.app N123 N125q
      obtain ⟨cq127, kq127, q127a, q127b, q127c⟩ := isOf hZ e125 EBALANCE_ERROR
      obtain ⟨_, _, ⟨T127, L127, k127, n127⟩, -, X127, ⟨Lc127, hQ127, l127, y127, z127⟩, st127⟩ := X125.virtualBack hx (y := (⟨"com/example/cardstand/cardstand/scenario/CardScenario", "fails", "(Lcom/example/cardstand/cardstand/scenario/CardScenario$Operation;)Z"⟩ : MethodName)) (z := (⟨"com/example/cardstand/cardstand/scenario/CardScenario", "fails", "(Lcom/example/cardstand/cardstand/scenario/CardScenario$Operation;)Z"⟩ : MethodName)) hown (mvT hZ (hw _ (List.mem_of_getElem? (i := 11) rfl))) (mvT hZ (hw _ (List.mem_of_getElem? (i := 12) rfl))) (notFace_of_selects (args := #[]) (mvT hZ (hw _ (List.mem_of_getElem? (i := 14) rfl)))) (mvT hZ (hw _ (List.mem_of_getElem? (i := 14) rfl))) (mvT hZ (hw _ (List.mem_of_getElem? (i := 13) rfl))) (by decide) (backOf (W := 0) (rm3 l Z a0 hw [] wBALANCE_ERROR wBALANCE wBALANCE wCARD_ERROR wPARTIAL wBALANCE wCREATE wPAYMENT_ERROR wLOAD wNO_TOPUP wORDINARY wBALANCE_ERROR h0 n0 Z0 W0 FBALANCE_ERROR_failing) hZ (hw _ (List.mem_of_getElem? (i := 15) rfl)) (hw _ (List.mem_of_getElem? (i := 6) rfl)) (by decide) (by decide)) q127a q127c (g := (mkF m 66 #[.val (.int p0), .val (.int p1), .val (.int (3 : Int32)), .val (.int (1 : Int32)), .val (.ref wBALANCE_ERROR), .val (.ref wBALANCE), .val (.int (1 : Int32))] [(.ref wBALANCE), (.ref wBALANCE_ERROR)])) rfl (by rw [hml]; rfl) (Steps.refl _) (argsL := [(.ref wBALANCE)]) (rest := []) (lenOf pd_2 rfl) rfl (by show 2 * 0 + _ ≤ _; exact Nat.le_of_eq rfl) (hb hby at_66) (fun _ _ => ⟨rfl, e125, (by decide : 0 + 0 ≤ _), (by decide : 0 + 0 ≤ _)⟩)
      dsimp only [Pt.U, Pt.locs, Pt.cells, Pt.slots] at X127 l127 y127 z127 st127 hQ127
      subst l127 y127 z127
      unfold Q3 at hQ127
      have k128 : ∀ t, Steps p.tables e below (T125.setTop (mkF m 66 #[.val (.int p0), .val (.int p1), .val (.int (3 : Int32)), .val (.int (1 : Int32)), .val (.ref wBALANCE_ERROR), .val (.ref wBALANCE), .val (.int (1 : Int32))] [(.ref wBALANCE), (.ref wBALANCE_ERROR)])) t → Steps p.tables e below (s₁.setTop (entryFrame m #[(.int p0), (.int p1)] maxLocals)) t := fun t kt => k126 t (by
        show Steps p.tables e below (T123.setTop (mkF m 22 #[.val (.int p0), .val (.int p1), .val (.int (3 : Int32)), .val (.int (1 : Int32)), .val (.ref wBALANCE_ERROR), .unset, .unset] [(.int (1 : Int32))])) _
        refine st125 _ ?_
        show Steps p.tables e below (T125.setTop (mkF m 25 #[.val (.int p0), .val (.int p1), .val (.int (3 : Int32)), .val (.int (1 : Int32)), .val (.ref wBALANCE_ERROR), .unset, .unset] [(.ref wBALANCE)])) _
        refine XS.astore X125.here hx rfl (hb hby at_25) rfl rfl (l' := #[.val (.int p0), .val (.int p1), .val (.int (3 : Int32)), .val (.int (1 : Int32)), .val (.ref wBALANCE_ERROR), .val (.ref wBALANCE), .unset]) rfl ?_
        show Steps p.tables e below (T125.setTop (mkF m 27 #[.val (.int p0), .val (.int p1), .val (.int (3 : Int32)), .val (.int (1 : Int32)), .val (.ref wBALANCE_ERROR), .val (.ref wBALANCE), .unset] [])) _
        refine XS.iloadN X125.here hx rfl (hb hby at_27) rfl ?_
        show Steps p.tables e below (T125.setTop (mkF m 28 #[.val (.int p0), .val (.int p1), .val (.int (3 : Int32)), .val (.int (1 : Int32)), .val (.ref wBALANCE_ERROR), .val (.ref wBALANCE), .unset] [(.int (3 : Int32))])) _
        refine XS.ifYes X125.here hx rfl (pc0 := 28) (pc' := 35) rfl (hb hby at_28) rfl ((if0 _ _).trans (feq ((by decide) : ¬ ((3 : Int32) = (0 : Int32)))).2) (by decide) (by decide) ?_
        show Steps p.tables e below (T125.setTop (mkF m 35 #[.val (.int p0), .val (.int p1), .val (.int (3 : Int32)), .val (.int (1 : Int32)), .val (.ref wBALANCE_ERROR), .val (.ref wBALANCE), .unset] [])) _
        refine XS.iloadN X125.here hx rfl (hb hby at_35) rfl ?_
        show Steps p.tables e below (T125.setTop (mkF m 36 #[.val (.int p0), .val (.int p1), .val (.int (3 : Int32)), .val (.int (1 : Int32)), .val (.ref wBALANCE_ERROR), .val (.ref wBALANCE), .unset] [(.int (3 : Int32))])) _
        refine XS.iconst X125.here hx rfl (hb hby at_36) ?_
        show Steps p.tables e below (T125.setTop (mkF m 37 #[.val (.int p0), .val (.int p1), .val (.int (3 : Int32)), .val (.int (1 : Int32)), .val (.ref wBALANCE_ERROR), .val (.ref wBALANCE), .unset] [(.int (3 : Int32)), (.int (3 : Int32))])) _
        refine XS.icmpNo X125.here hx rfl (hb hby at_37) rfl (teq (rfl : (3 : Int32) = (3 : Int32))).2 ?_
        show Steps p.tables e below (T125.setTop (mkF m 40 #[.val (.int p0), .val (.int p1), .val (.int (3 : Int32)), .val (.int (1 : Int32)), .val (.ref wBALANCE_ERROR), .val (.ref wBALANCE), .unset] [])) _
        refine XS.iloadN X125.here hx rfl (hb hby at_40) rfl ?_
        show Steps p.tables e below (T125.setTop (mkF m 41 #[.val (.int p0), .val (.int p1), .val (.int (3 : Int32)), .val (.int (1 : Int32)), .val (.ref wBALANCE_ERROR), .val (.ref wBALANCE), .unset] [(.int (1 : Int32))])) _
        refine XS.iconst X125.here hx rfl (hb hby at_41) ?_
        show Steps p.tables e below (T125.setTop (mkF m 42 #[.val (.int p0), .val (.int p1), .val (.int (3 : Int32)), .val (.int (1 : Int32)), .val (.ref wBALANCE_ERROR), .val (.ref wBALANCE), .unset] [(.int (1 : Int32)), (.int (1 : Int32))])) _
        refine XS.icmpYes X125.here hx rfl (pc0 := 42) (pc' := 55) rfl (hb hby at_42) rfl (teq (rfl : (1 : Int32) = (1 : Int32))).1 (by decide) (by decide) ?_
        show Steps p.tables e below (T125.setTop (mkF m 55 #[.val (.int p0), .val (.int p1), .val (.int (3 : Int32)), .val (.int (1 : Int32)), .val (.ref wBALANCE_ERROR), .val (.ref wBALANCE), .unset] [])) _
        refine XS.iconst X125.here hx rfl (hb hby at_55) ?_
        show Steps p.tables e below (T125.setTop (mkF m 56 #[.val (.int p0), .val (.int p1), .val (.int (3 : Int32)), .val (.int (1 : Int32)), .val (.ref wBALANCE_ERROR), .val (.ref wBALANCE), .unset] [(.int (1 : Int32))])) _
        refine XS.goto X125.here hx rfl (pc0 := 56) (pc' := 60) rfl (hb hby at_56) (by decide) (by decide) ?_
        show Steps p.tables e below (T125.setTop (mkF m 60 #[.val (.int p0), .val (.int p1), .val (.int (3 : Int32)), .val (.int (1 : Int32)), .val (.ref wBALANCE_ERROR), .val (.ref wBALANCE), .unset] [(.int (1 : Int32))])) _
        refine XS.istore X125.here hx rfl (hb hby at_60) rfl (l' := #[.val (.int p0), .val (.int p1), .val (.int (3 : Int32)), .val (.int (1 : Int32)), .val (.ref wBALANCE_ERROR), .val (.ref wBALANCE), .val (.int (1 : Int32))]) rfl ?_
        show Steps p.tables e below (T125.setTop (mkF m 62 #[.val (.int p0), .val (.int p1), .val (.int (3 : Int32)), .val (.int (1 : Int32)), .val (.ref wBALANCE_ERROR), .val (.ref wBALANCE), .val (.int (1 : Int32))] [])) _
        refine XS.aload X125.here hx rfl (hb hby at_62) rfl rfl ?_
        show Steps p.tables e below (T125.setTop (mkF m 64 #[.val (.int p0), .val (.int p1), .val (.int (3 : Int32)), .val (.int (1 : Int32)), .val (.ref wBALANCE_ERROR), .val (.ref wBALANCE), .val (.int (1 : Int32))] [(.ref wBALANCE_ERROR)])) _
        refine XS.aload X125.here hx rfl (hb hby at_64) rfl rfl ?_
        exact kt)
      rw [((by rw [f3, if_pos (rfl : wBALANCE = wBALANCE)]) : (f3 wBALANCE_ERROR wBALANCE wBALANCE wCARD_ERROR wPARTIAL wBALANCE wCREATE wPAYMENT_ERROR wLOAD wNO_TOPUP wORDINARY wBALANCE_ERROR) = (1 : Int32))] at hQ127
      obtain ⟨rfl, N127q, e127⟩ := hQ127
      have N127 := Fr.app N125 N127q
      obtain ⟨fs, hr, hrun, hended, hW, hsame⟩ := X127.leave (v := some (.int (1 : Int32))) (fun h => by rw [Bd.returns] at h; cases h)
      refine ⟨_, _, k128 _ ?_, hrun, hended, _, _, rfl, ?_, ⟨_, rfl⟩, hW, hsame.mono (by decide) (by decide)⟩
      · show Steps p.tables e below (T125.setTop (mkF m 66 #[.val (.int p0), .val (.int p1), .val (.int (3 : Int32)), .val (.int (1 : Int32)), .val (.ref wBALANCE_ERROR), .val (.ref wBALANCE), .val (.int (1 : Int32))] [(.ref wBALANCE), (.ref wBALANCE_ERROR)])) _
        refine st127.trans ?_
        show Steps p.tables e below (T127.setTop (mkF m 69 #[.val (.int p0), .val (.int p1), .val (.int (3 : Int32)), .val (.int (1 : Int32)), .val (.ref wBALANCE_ERROR), .val (.ref wBALANCE), .val (.int (1 : Int32))] [(.int (1 : Int32))])) _
        refine XS.iload X127.here hx rfl (hb hby at_69) rfl ?_
        show Steps p.tables e below (T127.setTop (mkF m 71 #[.val (.int p0), .val (.int p1), .val (.int (3 : Int32)), .val (.int (1 : Int32)), .val (.ref wBALANCE_ERROR), .val (.ref wBALANCE), .val (.int (1 : Int32))] [(.int (1 : Int32)), (.int (1 : Int32))])) _
        refine XS.icmpNo X127.here hx rfl (hb hby at_71) rfl (teq (rfl : (1 : Int32) = (1 : Int32))).2 ?_
        show Steps p.tables e below (T127.setTop (mkF m 74 #[.val (.int p0), .val (.int p1), .val (.int (3 : Int32)), .val (.int (1 : Int32)), .val (.ref wBALANCE_ERROR), .val (.ref wBALANCE), .val (.int (1 : Int32))] [])) _
        refine XS.iconst X127.here hx rfl (hb hby at_74) ?_
        show Steps p.tables e below (T127.setTop (mkF m 75 #[.val (.int p0), .val (.int p1), .val (.int (3 : Int32)), .val (.int (1 : Int32)), .val (.ref wBALANCE_ERROR), .val (.ref wBALANCE), .val (.int (1 : Int32))] [(.int (1 : Int32))])) _
        refine XS.goto X127.here hx rfl (pc0 := 75) (pc' := 79) rfl (hb hby at_75) (by decide) (by decide) ?_
        show Steps p.tables e below (T127.setTop (mkF m 79 #[.val (.int p0), .val (.int p1), .val (.int (3 : Int32)), .val (.int (1 : Int32)), .val (.ref wBALANCE_ERROR), .val (.ref wBALANCE), .val (.int (1 : Int32))] [(.int (1 : Int32))])) _
        exact retN X127 hx (t := .boolean) Bd.returns (by simp) (hb hby at_79) hr
      · show Q0 Z p0 p1 wCARD_ERROR wPARTIAL wBALANCE wCREATE wPAYMENT_ERROR wLOAD wNO_TOPUP wORDINARY wBALANCE_ERROR h0 n0 _ T127.heap _
        rw [e127]
        exact ⟨rfl, N127⟩
    · subst hv116
      obtain ⟨_, _, ⟨T129, L129, k129, n129⟩, -, X129, ⟨Lc129, hQ129, l129, y129, z129⟩, st129⟩ := Jvm.LawKit.callS X0 hx (y := (⟨"com/example/cardstand/cardstand/scenario/CardScenarioFailsPinLaw", "scenario", "(I)Lcom/example/cardstand/cardstand/scenario/CardScenario;"⟩ : MethodName)) hown (mvT hZ (hw _ (List.mem_of_getElem? (i := 1) rfl))) (mvT hZ (hw _ (List.mem_of_getElem? (i := 2) rfl))) (mvT hZ (hw _ (List.mem_of_getElem? (i := 3) rfl))) (mvT hZ (hw _ (List.mem_of_getElem? (i := 4) rfl))) (by decide) (backOf (W := 0) (rm1 l Z a0 hw [] (3 : Int32) wCARD_ERROR wPARTIAL wBALANCE wCREATE wPAYMENT_ERROR wLOAD wNO_TOPUP wORDINARY wBALANCE_ERROR h0 n0 Z0 W0 ) hZ (hw _ (List.mem_of_getElem? (i := 4) rfl)) (hw _ (List.mem_of_getElem? (i := 3) rfl)) (by decide) (by decide)) (g := (mkF m 16 #[.val (.int p0), .val (.int p1), .val (.int (3 : Int32)), .val (.int (2 : Int32)), .unset, .unset, .unset] [(.int (3 : Int32))])) rfl (by rw [hml]; rfl) (argsL := [(.int (3 : Int32))]) (rest := []) (lenOf pd_0 rfl) rfl (by show 2 * 0 + _ ≤ _; exact Nat.le_of_eq rfl) (hb hby at_16) (fun _ _ => ⟨rfl, e0, (by decide : 0 + 0 ≤ _), (by decide : 0 + 0 ≤ _)⟩)
      dsimp only [Pt.U, Pt.locs, Pt.cells, Pt.slots] at X129 l129 y129 z129 st129 hQ129
      subst l129 y129 z129
      unfold Q1 at hQ129
      have k130 : ∀ t, Steps p.tables e below (s₁.setTop (mkF m 16 #[.val (.int p0), .val (.int p1), .val (.int (3 : Int32)), .val (.int (2 : Int32)), .unset, .unset, .unset] [(.int (3 : Int32))])) t → Steps p.tables e below (s₁.setTop (entryFrame m #[(.int p0), (.int p1)] maxLocals)) t := fun t kt => k115 t (by
        show Steps p.tables e below (s₁.setTop (mkF m 15 #[.val (.int p0), .val (.int p1), .val (.int (3 : Int32)), .val (.int (2 : Int32)), .unset, .unset, .unset] [])) _
        refine XS.iloadN X0.here hx rfl (hb hby at_15) rfl ?_
        exact kt)
      rw [((by rw [f1, if_neg ((by decide) : ¬ ((3 : Int32) = (0 : Int32))), if_neg ((by decide) : ¬ ((3 : Int32) = (1 : Int32))), if_neg ((by decide) : ¬ ((3 : Int32) = (2 : Int32))), if_pos (rfl : (3 : Int32) = (3 : Int32))]) : (f1 (3 : Int32) wCARD_ERROR wPARTIAL wBALANCE wCREATE wPAYMENT_ERROR wLOAD wNO_TOPUP wORDINARY wBALANCE_ERROR) = wBALANCE_ERROR)] at hQ129
      obtain ⟨rfl, N129q, e129⟩ := hQ129
      have N129 := Fr.app N0 N129q
      obtain ⟨_, _, ⟨T131, L131, k131, n131⟩, -, X131, ⟨Lc131, hQ131, l131, y131, z131⟩, st131⟩ := Jvm.LawKit.callS X129 hx (y := (⟨"com/example/cardstand/cardstand/scenario/CardScenarioFailsPinLaw", "operation", "(I)Lcom/example/cardstand/cardstand/scenario/CardScenario$Operation;"⟩ : MethodName)) hown (mvT hZ (hw _ (List.mem_of_getElem? (i := 8) rfl))) (mvT hZ (hw _ (List.mem_of_getElem? (i := 9) rfl))) (mvT hZ (hw _ (List.mem_of_getElem? (i := 3) rfl))) (mvT hZ (hw _ (List.mem_of_getElem? (i := 10) rfl))) (by decide) (backOf (W := 0) (rm2 l Z a0 hw [] (2 : Int32) wCARD_ERROR wPARTIAL wBALANCE wCREATE wPAYMENT_ERROR wLOAD wNO_TOPUP wORDINARY wBALANCE_ERROR h0 n0 Z0 W0 ) hZ (hw _ (List.mem_of_getElem? (i := 10) rfl)) (hw _ (List.mem_of_getElem? (i := 3) rfl)) (by decide) (by decide)) (g := (mkF m 22 #[.val (.int p0), .val (.int p1), .val (.int (3 : Int32)), .val (.int (2 : Int32)), .val (.ref wBALANCE_ERROR), .unset, .unset] [(.int (2 : Int32))])) rfl (by rw [hml]; rfl) (argsL := [(.int (2 : Int32))]) (rest := []) (lenOf pd_1 rfl) rfl (by show 2 * 0 + _ ≤ _; exact Nat.le_of_eq rfl) (hb hby at_22) (fun _ _ => ⟨rfl, e129, (by decide : 0 + 0 ≤ _), (by decide : 0 + 0 ≤ _)⟩)
      dsimp only [Pt.U, Pt.locs, Pt.cells, Pt.slots] at X131 l131 y131 z131 st131 hQ131
      subst l131 y131 z131
      unfold Q2 at hQ131
      have k132 : ∀ t, Steps p.tables e below (T129.setTop (mkF m 22 #[.val (.int p0), .val (.int p1), .val (.int (3 : Int32)), .val (.int (2 : Int32)), .val (.ref wBALANCE_ERROR), .unset, .unset] [(.int (2 : Int32))])) t → Steps p.tables e below (s₁.setTop (entryFrame m #[(.int p0), (.int p1)] maxLocals)) t := fun t kt => k130 t (by
        show Steps p.tables e below (s₁.setTop (mkF m 16 #[.val (.int p0), .val (.int p1), .val (.int (3 : Int32)), .val (.int (2 : Int32)), .unset, .unset, .unset] [(.int (3 : Int32))])) _
        refine st129 _ ?_
        show Steps p.tables e below (T129.setTop (mkF m 19 #[.val (.int p0), .val (.int p1), .val (.int (3 : Int32)), .val (.int (2 : Int32)), .unset, .unset, .unset] [(.ref wBALANCE_ERROR)])) _
        refine XS.astore X129.here hx rfl (hb hby at_19) rfl rfl (l' := #[.val (.int p0), .val (.int p1), .val (.int (3 : Int32)), .val (.int (2 : Int32)), .val (.ref wBALANCE_ERROR), .unset, .unset]) rfl ?_
        show Steps p.tables e below (T129.setTop (mkF m 21 #[.val (.int p0), .val (.int p1), .val (.int (3 : Int32)), .val (.int (2 : Int32)), .val (.ref wBALANCE_ERROR), .unset, .unset] [])) _
        refine XS.iloadN X129.here hx rfl (hb hby at_21) rfl ?_
        exact kt)
      rw [((by rw [f2, if_neg ((by decide) : ¬ ((2 : Int32) = (0 : Int32))), if_neg ((by decide) : ¬ ((2 : Int32) = (1 : Int32))), if_pos (rfl : (2 : Int32) = (2 : Int32))]) : (f2 (2 : Int32) wCARD_ERROR wPARTIAL wBALANCE wCREATE wPAYMENT_ERROR wLOAD wNO_TOPUP wORDINARY wBALANCE_ERROR) = (.ref wLOAD))] at hQ131
      obtain ⟨rfl, N131q, e131⟩ := hQ131
      have N131 := Fr.app N129 N131q
      obtain ⟨cq133, kq133, q133a, q133b, q133c⟩ := isOf hZ e131 EBALANCE_ERROR
      obtain ⟨_, _, ⟨T133, L133, k133, n133⟩, -, X133, ⟨Lc133, hQ133, l133, y133, z133⟩, st133⟩ := X131.virtualBack hx (y := (⟨"com/example/cardstand/cardstand/scenario/CardScenario", "fails", "(Lcom/example/cardstand/cardstand/scenario/CardScenario$Operation;)Z"⟩ : MethodName)) (z := (⟨"com/example/cardstand/cardstand/scenario/CardScenario", "fails", "(Lcom/example/cardstand/cardstand/scenario/CardScenario$Operation;)Z"⟩ : MethodName)) hown (mvT hZ (hw _ (List.mem_of_getElem? (i := 11) rfl))) (mvT hZ (hw _ (List.mem_of_getElem? (i := 12) rfl))) (notFace_of_selects (args := #[]) (mvT hZ (hw _ (List.mem_of_getElem? (i := 14) rfl)))) (mvT hZ (hw _ (List.mem_of_getElem? (i := 14) rfl))) (mvT hZ (hw _ (List.mem_of_getElem? (i := 13) rfl))) (by decide) (backOf (W := 0) (rm3 l Z a0 hw [] wBALANCE_ERROR wLOAD wBALANCE wCARD_ERROR wPARTIAL wBALANCE wCREATE wPAYMENT_ERROR wLOAD wNO_TOPUP wORDINARY wBALANCE_ERROR h0 n0 Z0 W0 FBALANCE_ERROR_failing) hZ (hw _ (List.mem_of_getElem? (i := 15) rfl)) (hw _ (List.mem_of_getElem? (i := 6) rfl)) (by decide) (by decide)) q133a q133c (g := (mkF m 66 #[.val (.int p0), .val (.int p1), .val (.int (3 : Int32)), .val (.int (2 : Int32)), .val (.ref wBALANCE_ERROR), .val (.ref wLOAD), .val (.int (0 : Int32))] [(.ref wLOAD), (.ref wBALANCE_ERROR)])) rfl (by rw [hml]; rfl) (Steps.refl _) (argsL := [(.ref wLOAD)]) (rest := []) (lenOf pd_2 rfl) rfl (by show 2 * 0 + _ ≤ _; exact Nat.le_of_eq rfl) (hb hby at_66) (fun _ _ => ⟨rfl, e131, (by decide : 0 + 0 ≤ _), (by decide : 0 + 0 ≤ _)⟩)
      dsimp only [Pt.U, Pt.locs, Pt.cells, Pt.slots] at X133 l133 y133 z133 st133 hQ133
      subst l133 y133 z133
      unfold Q3 at hQ133
      have k134 : ∀ t, Steps p.tables e below (T131.setTop (mkF m 66 #[.val (.int p0), .val (.int p1), .val (.int (3 : Int32)), .val (.int (2 : Int32)), .val (.ref wBALANCE_ERROR), .val (.ref wLOAD), .val (.int (0 : Int32))] [(.ref wLOAD), (.ref wBALANCE_ERROR)])) t → Steps p.tables e below (s₁.setTop (entryFrame m #[(.int p0), (.int p1)] maxLocals)) t := fun t kt => k132 t (by
        show Steps p.tables e below (T129.setTop (mkF m 22 #[.val (.int p0), .val (.int p1), .val (.int (3 : Int32)), .val (.int (2 : Int32)), .val (.ref wBALANCE_ERROR), .unset, .unset] [(.int (2 : Int32))])) _
        refine st131 _ ?_
        show Steps p.tables e below (T131.setTop (mkF m 25 #[.val (.int p0), .val (.int p1), .val (.int (3 : Int32)), .val (.int (2 : Int32)), .val (.ref wBALANCE_ERROR), .unset, .unset] [(.ref wLOAD)])) _
        refine XS.astore X131.here hx rfl (hb hby at_25) rfl rfl (l' := #[.val (.int p0), .val (.int p1), .val (.int (3 : Int32)), .val (.int (2 : Int32)), .val (.ref wBALANCE_ERROR), .val (.ref wLOAD), .unset]) rfl ?_
        show Steps p.tables e below (T131.setTop (mkF m 27 #[.val (.int p0), .val (.int p1), .val (.int (3 : Int32)), .val (.int (2 : Int32)), .val (.ref wBALANCE_ERROR), .val (.ref wLOAD), .unset] [])) _
        refine XS.iloadN X131.here hx rfl (hb hby at_27) rfl ?_
        show Steps p.tables e below (T131.setTop (mkF m 28 #[.val (.int p0), .val (.int p1), .val (.int (3 : Int32)), .val (.int (2 : Int32)), .val (.ref wBALANCE_ERROR), .val (.ref wLOAD), .unset] [(.int (3 : Int32))])) _
        refine XS.ifYes X131.here hx rfl (pc0 := 28) (pc' := 35) rfl (hb hby at_28) rfl ((if0 _ _).trans (feq ((by decide) : ¬ ((3 : Int32) = (0 : Int32)))).2) (by decide) (by decide) ?_
        show Steps p.tables e below (T131.setTop (mkF m 35 #[.val (.int p0), .val (.int p1), .val (.int (3 : Int32)), .val (.int (2 : Int32)), .val (.ref wBALANCE_ERROR), .val (.ref wLOAD), .unset] [])) _
        refine XS.iloadN X131.here hx rfl (hb hby at_35) rfl ?_
        show Steps p.tables e below (T131.setTop (mkF m 36 #[.val (.int p0), .val (.int p1), .val (.int (3 : Int32)), .val (.int (2 : Int32)), .val (.ref wBALANCE_ERROR), .val (.ref wLOAD), .unset] [(.int (3 : Int32))])) _
        refine XS.iconst X131.here hx rfl (hb hby at_36) ?_
        show Steps p.tables e below (T131.setTop (mkF m 37 #[.val (.int p0), .val (.int p1), .val (.int (3 : Int32)), .val (.int (2 : Int32)), .val (.ref wBALANCE_ERROR), .val (.ref wLOAD), .unset] [(.int (3 : Int32)), (.int (3 : Int32))])) _
        refine XS.icmpNo X131.here hx rfl (hb hby at_37) rfl (teq (rfl : (3 : Int32) = (3 : Int32))).2 ?_
        show Steps p.tables e below (T131.setTop (mkF m 40 #[.val (.int p0), .val (.int p1), .val (.int (3 : Int32)), .val (.int (2 : Int32)), .val (.ref wBALANCE_ERROR), .val (.ref wLOAD), .unset] [])) _
        refine XS.iloadN X131.here hx rfl (hb hby at_40) rfl ?_
        show Steps p.tables e below (T131.setTop (mkF m 41 #[.val (.int p0), .val (.int p1), .val (.int (3 : Int32)), .val (.int (2 : Int32)), .val (.ref wBALANCE_ERROR), .val (.ref wLOAD), .unset] [(.int (2 : Int32))])) _
        refine XS.iconst X131.here hx rfl (hb hby at_41) ?_
        show Steps p.tables e below (T131.setTop (mkF m 42 #[.val (.int p0), .val (.int p1), .val (.int (3 : Int32)), .val (.int (2 : Int32)), .val (.ref wBALANCE_ERROR), .val (.ref wLOAD), .unset] [(.int (1 : Int32)), (.int (2 : Int32))])) _
        refine XS.icmpNo X131.here hx rfl (hb hby at_42) rfl (feq ((by decide) : ¬ ((2 : Int32) = (1 : Int32)))).1 ?_
        show Steps p.tables e below (T131.setTop (mkF m 45 #[.val (.int p0), .val (.int p1), .val (.int (3 : Int32)), .val (.int (2 : Int32)), .val (.ref wBALANCE_ERROR), .val (.ref wLOAD), .unset] [])) _
        refine XS.iloadN X131.here hx rfl (hb hby at_45) rfl ?_
        show Steps p.tables e below (T131.setTop (mkF m 46 #[.val (.int p0), .val (.int p1), .val (.int (3 : Int32)), .val (.int (2 : Int32)), .val (.ref wBALANCE_ERROR), .val (.ref wLOAD), .unset] [(.int (3 : Int32))])) _
        refine XS.iconst X131.here hx rfl (hb hby at_46) ?_
        show Steps p.tables e below (T131.setTop (mkF m 47 #[.val (.int p0), .val (.int p1), .val (.int (3 : Int32)), .val (.int (2 : Int32)), .val (.ref wBALANCE_ERROR), .val (.ref wLOAD), .unset] [(.int (4 : Int32)), (.int (3 : Int32))])) _
        refine XS.icmpYes X131.here hx rfl (pc0 := 47) (pc' := 59) rfl (hb hby at_47) rfl (feq ((by decide) : ¬ ((3 : Int32) = (4 : Int32)))).2 (by decide) (by decide) ?_
        show Steps p.tables e below (T131.setTop (mkF m 59 #[.val (.int p0), .val (.int p1), .val (.int (3 : Int32)), .val (.int (2 : Int32)), .val (.ref wBALANCE_ERROR), .val (.ref wLOAD), .unset] [])) _
        refine XS.iconst X131.here hx rfl (hb hby at_59) ?_
        show Steps p.tables e below (T131.setTop (mkF m 60 #[.val (.int p0), .val (.int p1), .val (.int (3 : Int32)), .val (.int (2 : Int32)), .val (.ref wBALANCE_ERROR), .val (.ref wLOAD), .unset] [(.int (0 : Int32))])) _
        refine XS.istore X131.here hx rfl (hb hby at_60) rfl (l' := #[.val (.int p0), .val (.int p1), .val (.int (3 : Int32)), .val (.int (2 : Int32)), .val (.ref wBALANCE_ERROR), .val (.ref wLOAD), .val (.int (0 : Int32))]) rfl ?_
        show Steps p.tables e below (T131.setTop (mkF m 62 #[.val (.int p0), .val (.int p1), .val (.int (3 : Int32)), .val (.int (2 : Int32)), .val (.ref wBALANCE_ERROR), .val (.ref wLOAD), .val (.int (0 : Int32))] [])) _
        refine XS.aload X131.here hx rfl (hb hby at_62) rfl rfl ?_
        show Steps p.tables e below (T131.setTop (mkF m 64 #[.val (.int p0), .val (.int p1), .val (.int (3 : Int32)), .val (.int (2 : Int32)), .val (.ref wBALANCE_ERROR), .val (.ref wLOAD), .val (.int (0 : Int32))] [(.ref wBALANCE_ERROR)])) _
        refine XS.aload X131.here hx rfl (hb hby at_64) rfl rfl ?_
        exact kt)
      rw [((by rw [f3, if_neg ((Fld.ne FLOAD_ordinal FBALANCE_ordinal (by decide)) : ¬ (wLOAD = wBALANCE))]) : (f3 wBALANCE_ERROR wLOAD wBALANCE wCARD_ERROR wPARTIAL wBALANCE wCREATE wPAYMENT_ERROR wLOAD wNO_TOPUP wORDINARY wBALANCE_ERROR) = (0 : Int32))] at hQ133
      obtain ⟨rfl, N133q, e133⟩ := hQ133
      have N133 := Fr.app N131 N133q
      obtain ⟨fs, hr, hrun, hended, hW, hsame⟩ := X133.leave (v := some (.int (1 : Int32))) (fun h => by rw [Bd.returns] at h; cases h)
      refine ⟨_, _, k134 _ ?_, hrun, hended, _, _, rfl, ?_, ⟨_, rfl⟩, hW, hsame.mono (by decide) (by decide)⟩
      · show Steps p.tables e below (T131.setTop (mkF m 66 #[.val (.int p0), .val (.int p1), .val (.int (3 : Int32)), .val (.int (2 : Int32)), .val (.ref wBALANCE_ERROR), .val (.ref wLOAD), .val (.int (0 : Int32))] [(.ref wLOAD), (.ref wBALANCE_ERROR)])) _
        refine st133.trans ?_
        show Steps p.tables e below (T133.setTop (mkF m 69 #[.val (.int p0), .val (.int p1), .val (.int (3 : Int32)), .val (.int (2 : Int32)), .val (.ref wBALANCE_ERROR), .val (.ref wLOAD), .val (.int (0 : Int32))] [(.int (0 : Int32))])) _
        refine XS.iload X133.here hx rfl (hb hby at_69) rfl ?_
        show Steps p.tables e below (T133.setTop (mkF m 71 #[.val (.int p0), .val (.int p1), .val (.int (3 : Int32)), .val (.int (2 : Int32)), .val (.ref wBALANCE_ERROR), .val (.ref wLOAD), .val (.int (0 : Int32))] [(.int (0 : Int32)), (.int (0 : Int32))])) _
        refine XS.icmpNo X133.here hx rfl (hb hby at_71) rfl (teq (rfl : (0 : Int32) = (0 : Int32))).2 ?_
        show Steps p.tables e below (T133.setTop (mkF m 74 #[.val (.int p0), .val (.int p1), .val (.int (3 : Int32)), .val (.int (2 : Int32)), .val (.ref wBALANCE_ERROR), .val (.ref wLOAD), .val (.int (0 : Int32))] [])) _
        refine XS.iconst X133.here hx rfl (hb hby at_74) ?_
        show Steps p.tables e below (T133.setTop (mkF m 75 #[.val (.int p0), .val (.int p1), .val (.int (3 : Int32)), .val (.int (2 : Int32)), .val (.ref wBALANCE_ERROR), .val (.ref wLOAD), .val (.int (0 : Int32))] [(.int (1 : Int32))])) _
        refine XS.goto X133.here hx rfl (pc0 := 75) (pc' := 79) rfl (hb hby at_75) (by decide) (by decide) ?_
        show Steps p.tables e below (T133.setTop (mkF m 79 #[.val (.int p0), .val (.int p1), .val (.int (3 : Int32)), .val (.int (2 : Int32)), .val (.ref wBALANCE_ERROR), .val (.ref wLOAD), .val (.int (0 : Int32))] [(.int (1 : Int32))])) _
        exact retN X133 hx (t := .boolean) Bd.returns (by simp) (hb hby at_79) hr
      · show Q0 Z p0 p1 wCARD_ERROR wPARTIAL wBALANCE wCREATE wPAYMENT_ERROR wLOAD wNO_TOPUP wORDINARY wBALANCE_ERROR h0 n0 _ T133.heap _
        rw [e133]
        exact ⟨rfl, N133⟩
    · subst hv116
      obtain ⟨_, _, ⟨T135, L135, k135, n135⟩, -, X135, ⟨Lc135, hQ135, l135, y135, z135⟩, st135⟩ := Jvm.LawKit.callS X0 hx (y := (⟨"com/example/cardstand/cardstand/scenario/CardScenarioFailsPinLaw", "scenario", "(I)Lcom/example/cardstand/cardstand/scenario/CardScenario;"⟩ : MethodName)) hown (mvT hZ (hw _ (List.mem_of_getElem? (i := 1) rfl))) (mvT hZ (hw _ (List.mem_of_getElem? (i := 2) rfl))) (mvT hZ (hw _ (List.mem_of_getElem? (i := 3) rfl))) (mvT hZ (hw _ (List.mem_of_getElem? (i := 4) rfl))) (by decide) (backOf (W := 0) (rm1 l Z a0 hw [] (3 : Int32) wCARD_ERROR wPARTIAL wBALANCE wCREATE wPAYMENT_ERROR wLOAD wNO_TOPUP wORDINARY wBALANCE_ERROR h0 n0 Z0 W0 ) hZ (hw _ (List.mem_of_getElem? (i := 4) rfl)) (hw _ (List.mem_of_getElem? (i := 3) rfl)) (by decide) (by decide)) (g := (mkF m 16 #[.val (.int p0), .val (.int p1), .val (.int (3 : Int32)), .val (.int (3 : Int32)), .unset, .unset, .unset] [(.int (3 : Int32))])) rfl (by rw [hml]; rfl) (argsL := [(.int (3 : Int32))]) (rest := []) (lenOf pd_0 rfl) rfl (by show 2 * 0 + _ ≤ _; exact Nat.le_of_eq rfl) (hb hby at_16) (fun _ _ => ⟨rfl, e0, (by decide : 0 + 0 ≤ _), (by decide : 0 + 0 ≤ _)⟩)
      dsimp only [Pt.U, Pt.locs, Pt.cells, Pt.slots] at X135 l135 y135 z135 st135 hQ135
      subst l135 y135 z135
      unfold Q1 at hQ135
      have k136 : ∀ t, Steps p.tables e below (s₁.setTop (mkF m 16 #[.val (.int p0), .val (.int p1), .val (.int (3 : Int32)), .val (.int (3 : Int32)), .unset, .unset, .unset] [(.int (3 : Int32))])) t → Steps p.tables e below (s₁.setTop (entryFrame m #[(.int p0), (.int p1)] maxLocals)) t := fun t kt => k115 t (by
        show Steps p.tables e below (s₁.setTop (mkF m 15 #[.val (.int p0), .val (.int p1), .val (.int (3 : Int32)), .val (.int (3 : Int32)), .unset, .unset, .unset] [])) _
        refine XS.iloadN X0.here hx rfl (hb hby at_15) rfl ?_
        exact kt)
      rw [((by rw [f1, if_neg ((by decide) : ¬ ((3 : Int32) = (0 : Int32))), if_neg ((by decide) : ¬ ((3 : Int32) = (1 : Int32))), if_neg ((by decide) : ¬ ((3 : Int32) = (2 : Int32))), if_pos (rfl : (3 : Int32) = (3 : Int32))]) : (f1 (3 : Int32) wCARD_ERROR wPARTIAL wBALANCE wCREATE wPAYMENT_ERROR wLOAD wNO_TOPUP wORDINARY wBALANCE_ERROR) = wBALANCE_ERROR)] at hQ135
      obtain ⟨rfl, N135q, e135⟩ := hQ135
      have N135 := Fr.app N0 N135q
      obtain ⟨_, _, ⟨T137, L137, k137, n137⟩, -, X137, ⟨Lc137, hQ137, l137, y137, z137⟩, st137⟩ := Jvm.LawKit.callS X135 hx (y := (⟨"com/example/cardstand/cardstand/scenario/CardScenarioFailsPinLaw", "operation", "(I)Lcom/example/cardstand/cardstand/scenario/CardScenario$Operation;"⟩ : MethodName)) hown (mvT hZ (hw _ (List.mem_of_getElem? (i := 8) rfl))) (mvT hZ (hw _ (List.mem_of_getElem? (i := 9) rfl))) (mvT hZ (hw _ (List.mem_of_getElem? (i := 3) rfl))) (mvT hZ (hw _ (List.mem_of_getElem? (i := 10) rfl))) (by decide) (backOf (W := 0) (rm2 l Z a0 hw [] (3 : Int32) wCARD_ERROR wPARTIAL wBALANCE wCREATE wPAYMENT_ERROR wLOAD wNO_TOPUP wORDINARY wBALANCE_ERROR h0 n0 Z0 W0 ) hZ (hw _ (List.mem_of_getElem? (i := 10) rfl)) (hw _ (List.mem_of_getElem? (i := 3) rfl)) (by decide) (by decide)) (g := (mkF m 22 #[.val (.int p0), .val (.int p1), .val (.int (3 : Int32)), .val (.int (3 : Int32)), .val (.ref wBALANCE_ERROR), .unset, .unset] [(.int (3 : Int32))])) rfl (by rw [hml]; rfl) (argsL := [(.int (3 : Int32))]) (rest := []) (lenOf pd_1 rfl) rfl (by show 2 * 0 + _ ≤ _; exact Nat.le_of_eq rfl) (hb hby at_22) (fun _ _ => ⟨rfl, e135, (by decide : 0 + 0 ≤ _), (by decide : 0 + 0 ≤ _)⟩)
      dsimp only [Pt.U, Pt.locs, Pt.cells, Pt.slots] at X137 l137 y137 z137 st137 hQ137
      subst l137 y137 z137
      unfold Q2 at hQ137
      have k138 : ∀ t, Steps p.tables e below (T135.setTop (mkF m 22 #[.val (.int p0), .val (.int p1), .val (.int (3 : Int32)), .val (.int (3 : Int32)), .val (.ref wBALANCE_ERROR), .unset, .unset] [(.int (3 : Int32))])) t → Steps p.tables e below (s₁.setTop (entryFrame m #[(.int p0), (.int p1)] maxLocals)) t := fun t kt => k136 t (by
        show Steps p.tables e below (s₁.setTop (mkF m 16 #[.val (.int p0), .val (.int p1), .val (.int (3 : Int32)), .val (.int (3 : Int32)), .unset, .unset, .unset] [(.int (3 : Int32))])) _
        refine st135 _ ?_
        show Steps p.tables e below (T135.setTop (mkF m 19 #[.val (.int p0), .val (.int p1), .val (.int (3 : Int32)), .val (.int (3 : Int32)), .unset, .unset, .unset] [(.ref wBALANCE_ERROR)])) _
        refine XS.astore X135.here hx rfl (hb hby at_19) rfl rfl (l' := #[.val (.int p0), .val (.int p1), .val (.int (3 : Int32)), .val (.int (3 : Int32)), .val (.ref wBALANCE_ERROR), .unset, .unset]) rfl ?_
        show Steps p.tables e below (T135.setTop (mkF m 21 #[.val (.int p0), .val (.int p1), .val (.int (3 : Int32)), .val (.int (3 : Int32)), .val (.ref wBALANCE_ERROR), .unset, .unset] [])) _
        refine XS.iloadN X135.here hx rfl (hb hby at_21) rfl ?_
        exact kt)
      rw [((by rw [f2, if_neg ((by decide) : ¬ ((3 : Int32) = (0 : Int32))), if_neg ((by decide) : ¬ ((3 : Int32) = (1 : Int32))), if_neg ((by decide) : ¬ ((3 : Int32) = (2 : Int32)))]) : (f2 (3 : Int32) wCARD_ERROR wPARTIAL wBALANCE wCREATE wPAYMENT_ERROR wLOAD wNO_TOPUP wORDINARY wBALANCE_ERROR) = .null)] at hQ137
      obtain ⟨rfl, N137q, e137⟩ := hQ137
      have N137 := Fr.app N135 N137q
      obtain ⟨cq139, kq139, q139a, q139b, q139c⟩ := isOf hZ e137 EBALANCE_ERROR
      obtain ⟨_, _, ⟨T139, L139, k139, n139⟩, -, X139, ⟨Lc139, hQ139, l139, y139, z139⟩, st139⟩ := X137.virtualBack hx (y := (⟨"com/example/cardstand/cardstand/scenario/CardScenario", "fails", "(Lcom/example/cardstand/cardstand/scenario/CardScenario$Operation;)Z"⟩ : MethodName)) (z := (⟨"com/example/cardstand/cardstand/scenario/CardScenario", "fails", "(Lcom/example/cardstand/cardstand/scenario/CardScenario$Operation;)Z"⟩ : MethodName)) hown (mvT hZ (hw _ (List.mem_of_getElem? (i := 11) rfl))) (mvT hZ (hw _ (List.mem_of_getElem? (i := 12) rfl))) (notFace_of_selects (args := #[]) (mvT hZ (hw _ (List.mem_of_getElem? (i := 14) rfl)))) (mvT hZ (hw _ (List.mem_of_getElem? (i := 14) rfl))) (mvT hZ (hw _ (List.mem_of_getElem? (i := 13) rfl))) (by decide) (backOf (W := 0) (rm5 l Z a0 hw [] wBALANCE_ERROR wCARD_ERROR wPARTIAL wBALANCE wCREATE wPAYMENT_ERROR wLOAD wNO_TOPUP wORDINARY wBALANCE_ERROR h0 n0 Z0 W0 ) hZ (hw _ (List.mem_of_getElem? (i := 15) rfl)) (hw _ (List.mem_of_getElem? (i := 6) rfl)) (by decide) (by decide)) q139a q139c (g := (mkF m 66 #[.val (.int p0), .val (.int p1), .val (.int (3 : Int32)), .val (.int (3 : Int32)), .val (.ref wBALANCE_ERROR), .val .null, .val (.int (0 : Int32))] [.null, (.ref wBALANCE_ERROR)])) rfl (by rw [hml]; rfl) (Steps.refl _) (argsL := [.null]) (rest := []) (lenOf pd_2 rfl) rfl (by show 2 * 0 + _ ≤ _; exact Nat.le_of_eq rfl) (hb hby at_66) (fun _ _ => ⟨rfl, e137, (by decide : 0 + 0 ≤ _), (by decide : 0 + 0 ≤ _)⟩)
      dsimp only [Pt.U, Pt.locs, Pt.cells, Pt.slots] at X139 l139 y139 z139 st139 hQ139
      subst l139 y139 z139
      unfold Q5 at hQ139
      have k140 : ∀ t, Steps p.tables e below (T137.setTop (mkF m 66 #[.val (.int p0), .val (.int p1), .val (.int (3 : Int32)), .val (.int (3 : Int32)), .val (.ref wBALANCE_ERROR), .val .null, .val (.int (0 : Int32))] [.null, (.ref wBALANCE_ERROR)])) t → Steps p.tables e below (s₁.setTop (entryFrame m #[(.int p0), (.int p1)] maxLocals)) t := fun t kt => k138 t (by
        show Steps p.tables e below (T135.setTop (mkF m 22 #[.val (.int p0), .val (.int p1), .val (.int (3 : Int32)), .val (.int (3 : Int32)), .val (.ref wBALANCE_ERROR), .unset, .unset] [(.int (3 : Int32))])) _
        refine st137 _ ?_
        show Steps p.tables e below (T137.setTop (mkF m 25 #[.val (.int p0), .val (.int p1), .val (.int (3 : Int32)), .val (.int (3 : Int32)), .val (.ref wBALANCE_ERROR), .unset, .unset] [.null])) _
        refine XS.astore X137.here hx rfl (hb hby at_25) rfl rfl (l' := #[.val (.int p0), .val (.int p1), .val (.int (3 : Int32)), .val (.int (3 : Int32)), .val (.ref wBALANCE_ERROR), .val .null, .unset]) rfl ?_
        show Steps p.tables e below (T137.setTop (mkF m 27 #[.val (.int p0), .val (.int p1), .val (.int (3 : Int32)), .val (.int (3 : Int32)), .val (.ref wBALANCE_ERROR), .val .null, .unset] [])) _
        refine XS.iloadN X137.here hx rfl (hb hby at_27) rfl ?_
        show Steps p.tables e below (T137.setTop (mkF m 28 #[.val (.int p0), .val (.int p1), .val (.int (3 : Int32)), .val (.int (3 : Int32)), .val (.ref wBALANCE_ERROR), .val .null, .unset] [(.int (3 : Int32))])) _
        refine XS.ifYes X137.here hx rfl (pc0 := 28) (pc' := 35) rfl (hb hby at_28) rfl ((if0 _ _).trans (feq ((by decide) : ¬ ((3 : Int32) = (0 : Int32)))).2) (by decide) (by decide) ?_
        show Steps p.tables e below (T137.setTop (mkF m 35 #[.val (.int p0), .val (.int p1), .val (.int (3 : Int32)), .val (.int (3 : Int32)), .val (.ref wBALANCE_ERROR), .val .null, .unset] [])) _
        refine XS.iloadN X137.here hx rfl (hb hby at_35) rfl ?_
        show Steps p.tables e below (T137.setTop (mkF m 36 #[.val (.int p0), .val (.int p1), .val (.int (3 : Int32)), .val (.int (3 : Int32)), .val (.ref wBALANCE_ERROR), .val .null, .unset] [(.int (3 : Int32))])) _
        refine XS.iconst X137.here hx rfl (hb hby at_36) ?_
        show Steps p.tables e below (T137.setTop (mkF m 37 #[.val (.int p0), .val (.int p1), .val (.int (3 : Int32)), .val (.int (3 : Int32)), .val (.ref wBALANCE_ERROR), .val .null, .unset] [(.int (3 : Int32)), (.int (3 : Int32))])) _
        refine XS.icmpNo X137.here hx rfl (hb hby at_37) rfl (teq (rfl : (3 : Int32) = (3 : Int32))).2 ?_
        show Steps p.tables e below (T137.setTop (mkF m 40 #[.val (.int p0), .val (.int p1), .val (.int (3 : Int32)), .val (.int (3 : Int32)), .val (.ref wBALANCE_ERROR), .val .null, .unset] [])) _
        refine XS.iloadN X137.here hx rfl (hb hby at_40) rfl ?_
        show Steps p.tables e below (T137.setTop (mkF m 41 #[.val (.int p0), .val (.int p1), .val (.int (3 : Int32)), .val (.int (3 : Int32)), .val (.ref wBALANCE_ERROR), .val .null, .unset] [(.int (3 : Int32))])) _
        refine XS.iconst X137.here hx rfl (hb hby at_41) ?_
        show Steps p.tables e below (T137.setTop (mkF m 42 #[.val (.int p0), .val (.int p1), .val (.int (3 : Int32)), .val (.int (3 : Int32)), .val (.ref wBALANCE_ERROR), .val .null, .unset] [(.int (1 : Int32)), (.int (3 : Int32))])) _
        refine XS.icmpNo X137.here hx rfl (hb hby at_42) rfl (feq ((by decide) : ¬ ((3 : Int32) = (1 : Int32)))).1 ?_
        show Steps p.tables e below (T137.setTop (mkF m 45 #[.val (.int p0), .val (.int p1), .val (.int (3 : Int32)), .val (.int (3 : Int32)), .val (.ref wBALANCE_ERROR), .val .null, .unset] [])) _
        refine XS.iloadN X137.here hx rfl (hb hby at_45) rfl ?_
        show Steps p.tables e below (T137.setTop (mkF m 46 #[.val (.int p0), .val (.int p1), .val (.int (3 : Int32)), .val (.int (3 : Int32)), .val (.ref wBALANCE_ERROR), .val .null, .unset] [(.int (3 : Int32))])) _
        refine XS.iconst X137.here hx rfl (hb hby at_46) ?_
        show Steps p.tables e below (T137.setTop (mkF m 47 #[.val (.int p0), .val (.int p1), .val (.int (3 : Int32)), .val (.int (3 : Int32)), .val (.ref wBALANCE_ERROR), .val .null, .unset] [(.int (4 : Int32)), (.int (3 : Int32))])) _
        refine XS.icmpYes X137.here hx rfl (pc0 := 47) (pc' := 59) rfl (hb hby at_47) rfl (feq ((by decide) : ¬ ((3 : Int32) = (4 : Int32)))).2 (by decide) (by decide) ?_
        show Steps p.tables e below (T137.setTop (mkF m 59 #[.val (.int p0), .val (.int p1), .val (.int (3 : Int32)), .val (.int (3 : Int32)), .val (.ref wBALANCE_ERROR), .val .null, .unset] [])) _
        refine XS.iconst X137.here hx rfl (hb hby at_59) ?_
        show Steps p.tables e below (T137.setTop (mkF m 60 #[.val (.int p0), .val (.int p1), .val (.int (3 : Int32)), .val (.int (3 : Int32)), .val (.ref wBALANCE_ERROR), .val .null, .unset] [(.int (0 : Int32))])) _
        refine XS.istore X137.here hx rfl (hb hby at_60) rfl (l' := #[.val (.int p0), .val (.int p1), .val (.int (3 : Int32)), .val (.int (3 : Int32)), .val (.ref wBALANCE_ERROR), .val .null, .val (.int (0 : Int32))]) rfl ?_
        show Steps p.tables e below (T137.setTop (mkF m 62 #[.val (.int p0), .val (.int p1), .val (.int (3 : Int32)), .val (.int (3 : Int32)), .val (.ref wBALANCE_ERROR), .val .null, .val (.int (0 : Int32))] [])) _
        refine XS.aload X137.here hx rfl (hb hby at_62) rfl rfl ?_
        show Steps p.tables e below (T137.setTop (mkF m 64 #[.val (.int p0), .val (.int p1), .val (.int (3 : Int32)), .val (.int (3 : Int32)), .val (.ref wBALANCE_ERROR), .val .null, .val (.int (0 : Int32))] [(.ref wBALANCE_ERROR)])) _
        refine XS.aload X137.here hx rfl (hb hby at_64) rfl rfl ?_
        exact kt)
      rw [((by rw [f5]) : (f5 wBALANCE_ERROR wCARD_ERROR wPARTIAL wBALANCE wCREATE wPAYMENT_ERROR wLOAD wNO_TOPUP wORDINARY wBALANCE_ERROR) = (0 : Int32))] at hQ139
      obtain ⟨rfl, N139q, e139⟩ := hQ139
      have N139 := Fr.app N137 N139q
      obtain ⟨fs, hr, hrun, hended, hW, hsame⟩ := X139.leave (v := some (.int (1 : Int32))) (fun h => by rw [Bd.returns] at h; cases h)
      refine ⟨_, _, k140 _ ?_, hrun, hended, _, _, rfl, ?_, ⟨_, rfl⟩, hW, hsame.mono (by decide) (by decide)⟩
      · show Steps p.tables e below (T137.setTop (mkF m 66 #[.val (.int p0), .val (.int p1), .val (.int (3 : Int32)), .val (.int (3 : Int32)), .val (.ref wBALANCE_ERROR), .val .null, .val (.int (0 : Int32))] [.null, (.ref wBALANCE_ERROR)])) _
        refine st139.trans ?_
        show Steps p.tables e below (T139.setTop (mkF m 69 #[.val (.int p0), .val (.int p1), .val (.int (3 : Int32)), .val (.int (3 : Int32)), .val (.ref wBALANCE_ERROR), .val .null, .val (.int (0 : Int32))] [(.int (0 : Int32))])) _
        refine XS.iload X139.here hx rfl (hb hby at_69) rfl ?_
        show Steps p.tables e below (T139.setTop (mkF m 71 #[.val (.int p0), .val (.int p1), .val (.int (3 : Int32)), .val (.int (3 : Int32)), .val (.ref wBALANCE_ERROR), .val .null, .val (.int (0 : Int32))] [(.int (0 : Int32)), (.int (0 : Int32))])) _
        refine XS.icmpNo X139.here hx rfl (hb hby at_71) rfl (teq (rfl : (0 : Int32) = (0 : Int32))).2 ?_
        show Steps p.tables e below (T139.setTop (mkF m 74 #[.val (.int p0), .val (.int p1), .val (.int (3 : Int32)), .val (.int (3 : Int32)), .val (.ref wBALANCE_ERROR), .val .null, .val (.int (0 : Int32))] [])) _
        refine XS.iconst X139.here hx rfl (hb hby at_74) ?_
        show Steps p.tables e below (T139.setTop (mkF m 75 #[.val (.int p0), .val (.int p1), .val (.int (3 : Int32)), .val (.int (3 : Int32)), .val (.ref wBALANCE_ERROR), .val .null, .val (.int (0 : Int32))] [(.int (1 : Int32))])) _
        refine XS.goto X139.here hx rfl (pc0 := 75) (pc' := 79) rfl (hb hby at_75) (by decide) (by decide) ?_
        show Steps p.tables e below (T139.setTop (mkF m 79 #[.val (.int p0), .val (.int p1), .val (.int (3 : Int32)), .val (.int (3 : Int32)), .val (.ref wBALANCE_ERROR), .val .null, .val (.int (0 : Int32))] [(.int (1 : Int32))])) _
        exact retN X139 hx (t := .boolean) Bd.returns (by simp) (hb hby at_79) hr
      · show Q0 Z p0 p1 wCARD_ERROR wPARTIAL wBALANCE wCREATE wPAYMENT_ERROR wLOAD wNO_TOPUP wORDINARY wBALANCE_ERROR h0 n0 _ T139.heap _
        rw [e139]
        exact ⟨rfl, N139⟩
  · subst hv32
    obtain ⟨i141, hi141⟩ : ∃ z, z = ((p1 &&& (2147483647 : Int32)) % (4 : Int32)) := ⟨_, rfl⟩
    have k142 : ∀ t, Steps p.tables e below (s₁.setTop (mkF m 15 #[.val (.int p0), .val (.int p1), .val (.int (4 : Int32)), .val (.int i141), .unset, .unset, .unset] [])) t → Steps p.tables e below (s₁.setTop (entryFrame m #[(.int p0), (.int p1)] maxLocals)) t := fun t kt => k31 t (by
      show Steps p.tables e below (s₁.setTop (mkF m 8 #[.val (.int p0), .val (.int p1), .val (.int (4 : Int32)), .unset, .unset, .unset, .unset] [])) _
      refine XS.iloadN X0.here hx rfl (hb hby at_8) rfl ?_
      show Steps p.tables e below (s₁.setTop (mkF m 9 #[.val (.int p0), .val (.int p1), .val (.int (4 : Int32)), .unset, .unset, .unset, .unset] [(.int p1)])) _
      refine X0.ldcInt hx hown (mvT hZ (hw _ (List.mem_of_getElem? (i := 0) rfl))) (g := (mkF m 9 #[.val (.int p0), .val (.int p1), .val (.int (4 : Int32)), .unset, .unset, .unset, .unset] [(.int p1)])) rfl (hb hby at_9) _ ?_
      show Steps p.tables e below (s₁.setTop (mkF m 11 #[.val (.int p0), .val (.int p1), .val (.int (4 : Int32)), .unset, .unset, .unset, .unset] [(.int (2147483647 : Int32)), (.int p1)])) _
      refine XS.iand X0.here hx rfl (hb hby at_11) rfl ?_
      show Steps p.tables e below (s₁.setTop (mkF m 12 #[.val (.int p0), .val (.int p1), .val (.int (4 : Int32)), .unset, .unset, .unset, .unset] [(.int (p1 &&& (2147483647 : Int32)))])) _
      refine XS.iconst X0.here hx rfl (hb hby at_12) ?_
      show Steps p.tables e below (s₁.setTop (mkF m 13 #[.val (.int p0), .val (.int p1), .val (.int (4 : Int32)), .unset, .unset, .unset, .unset] [(.int (4 : Int32)), (.int (p1 &&& (2147483647 : Int32)))])) _
      refine iremM X0 hx rfl (hb hby at_13) rfl (by decide) ?_
      rw [← hi141]
      show Steps p.tables e below (s₁.setTop (mkF m 14 #[.val (.int p0), .val (.int p1), .val (.int (4 : Int32)), .unset, .unset, .unset, .unset] [(.int i141)])) _
      refine XS.istoreN X0.here hx rfl (hb hby at_14) rfl (l' := #[.val (.int p0), .val (.int p1), .val (.int (4 : Int32)), .val (.int i141), .unset, .unset, .unset]) rfl ?_
      exact kt)
    rcases own_cases4 hi141 with hv143 | hv143 | hv143 | hv143
    · subst hv143
      obtain ⟨_, _, ⟨T144, L144, k144, n144⟩, -, X144, ⟨Lc144, hQ144, l144, y144, z144⟩, st144⟩ := Jvm.LawKit.callS X0 hx (y := (⟨"com/example/cardstand/cardstand/scenario/CardScenarioFailsPinLaw", "scenario", "(I)Lcom/example/cardstand/cardstand/scenario/CardScenario;"⟩ : MethodName)) hown (mvT hZ (hw _ (List.mem_of_getElem? (i := 1) rfl))) (mvT hZ (hw _ (List.mem_of_getElem? (i := 2) rfl))) (mvT hZ (hw _ (List.mem_of_getElem? (i := 3) rfl))) (mvT hZ (hw _ (List.mem_of_getElem? (i := 4) rfl))) (by decide) (backOf (W := 0) (rm1 l Z a0 hw [] (4 : Int32) wCARD_ERROR wPARTIAL wBALANCE wCREATE wPAYMENT_ERROR wLOAD wNO_TOPUP wORDINARY wBALANCE_ERROR h0 n0 Z0 W0 ) hZ (hw _ (List.mem_of_getElem? (i := 4) rfl)) (hw _ (List.mem_of_getElem? (i := 3) rfl)) (by decide) (by decide)) (g := (mkF m 16 #[.val (.int p0), .val (.int p1), .val (.int (4 : Int32)), .val (.int (0 : Int32)), .unset, .unset, .unset] [(.int (4 : Int32))])) rfl (by rw [hml]; rfl) (argsL := [(.int (4 : Int32))]) (rest := []) (lenOf pd_0 rfl) rfl (by show 2 * 0 + _ ≤ _; exact Nat.le_of_eq rfl) (hb hby at_16) (fun _ _ => ⟨rfl, e0, (by decide : 0 + 0 ≤ _), (by decide : 0 + 0 ≤ _)⟩)
      dsimp only [Pt.U, Pt.locs, Pt.cells, Pt.slots] at X144 l144 y144 z144 st144 hQ144
      subst l144 y144 z144
      unfold Q1 at hQ144
      have k145 : ∀ t, Steps p.tables e below (s₁.setTop (mkF m 16 #[.val (.int p0), .val (.int p1), .val (.int (4 : Int32)), .val (.int (0 : Int32)), .unset, .unset, .unset] [(.int (4 : Int32))])) t → Steps p.tables e below (s₁.setTop (entryFrame m #[(.int p0), (.int p1)] maxLocals)) t := fun t kt => k142 t (by
        show Steps p.tables e below (s₁.setTop (mkF m 15 #[.val (.int p0), .val (.int p1), .val (.int (4 : Int32)), .val (.int (0 : Int32)), .unset, .unset, .unset] [])) _
        refine XS.iloadN X0.here hx rfl (hb hby at_15) rfl ?_
        exact kt)
      rw [((by rw [f1, if_neg ((by decide) : ¬ ((4 : Int32) = (0 : Int32))), if_neg ((by decide) : ¬ ((4 : Int32) = (1 : Int32))), if_neg ((by decide) : ¬ ((4 : Int32) = (2 : Int32))), if_neg ((by decide) : ¬ ((4 : Int32) = (3 : Int32))), if_pos (rfl : (4 : Int32) = (4 : Int32))]) : (f1 (4 : Int32) wCARD_ERROR wPARTIAL wBALANCE wCREATE wPAYMENT_ERROR wLOAD wNO_TOPUP wORDINARY wBALANCE_ERROR) = wPAYMENT_ERROR)] at hQ144
      obtain ⟨rfl, N144q, e144⟩ := hQ144
      have N144 := Fr.app N0 N144q
      obtain ⟨_, _, ⟨T146, L146, k146, n146⟩, -, X146, ⟨Lc146, hQ146, l146, y146, z146⟩, st146⟩ := Jvm.LawKit.callS X144 hx (y := (⟨"com/example/cardstand/cardstand/scenario/CardScenarioFailsPinLaw", "operation", "(I)Lcom/example/cardstand/cardstand/scenario/CardScenario$Operation;"⟩ : MethodName)) hown (mvT hZ (hw _ (List.mem_of_getElem? (i := 8) rfl))) (mvT hZ (hw _ (List.mem_of_getElem? (i := 9) rfl))) (mvT hZ (hw _ (List.mem_of_getElem? (i := 3) rfl))) (mvT hZ (hw _ (List.mem_of_getElem? (i := 10) rfl))) (by decide) (backOf (W := 0) (rm2 l Z a0 hw [] (0 : Int32) wCARD_ERROR wPARTIAL wBALANCE wCREATE wPAYMENT_ERROR wLOAD wNO_TOPUP wORDINARY wBALANCE_ERROR h0 n0 Z0 W0 ) hZ (hw _ (List.mem_of_getElem? (i := 10) rfl)) (hw _ (List.mem_of_getElem? (i := 3) rfl)) (by decide) (by decide)) (g := (mkF m 22 #[.val (.int p0), .val (.int p1), .val (.int (4 : Int32)), .val (.int (0 : Int32)), .val (.ref wPAYMENT_ERROR), .unset, .unset] [(.int (0 : Int32))])) rfl (by rw [hml]; rfl) (argsL := [(.int (0 : Int32))]) (rest := []) (lenOf pd_1 rfl) rfl (by show 2 * 0 + _ ≤ _; exact Nat.le_of_eq rfl) (hb hby at_22) (fun _ _ => ⟨rfl, e144, (by decide : 0 + 0 ≤ _), (by decide : 0 + 0 ≤ _)⟩)
      dsimp only [Pt.U, Pt.locs, Pt.cells, Pt.slots] at X146 l146 y146 z146 st146 hQ146
      subst l146 y146 z146
      unfold Q2 at hQ146
      have k147 : ∀ t, Steps p.tables e below (T144.setTop (mkF m 22 #[.val (.int p0), .val (.int p1), .val (.int (4 : Int32)), .val (.int (0 : Int32)), .val (.ref wPAYMENT_ERROR), .unset, .unset] [(.int (0 : Int32))])) t → Steps p.tables e below (s₁.setTop (entryFrame m #[(.int p0), (.int p1)] maxLocals)) t := fun t kt => k145 t (by
        show Steps p.tables e below (s₁.setTop (mkF m 16 #[.val (.int p0), .val (.int p1), .val (.int (4 : Int32)), .val (.int (0 : Int32)), .unset, .unset, .unset] [(.int (4 : Int32))])) _
        refine st144 _ ?_
        show Steps p.tables e below (T144.setTop (mkF m 19 #[.val (.int p0), .val (.int p1), .val (.int (4 : Int32)), .val (.int (0 : Int32)), .unset, .unset, .unset] [(.ref wPAYMENT_ERROR)])) _
        refine XS.astore X144.here hx rfl (hb hby at_19) rfl rfl (l' := #[.val (.int p0), .val (.int p1), .val (.int (4 : Int32)), .val (.int (0 : Int32)), .val (.ref wPAYMENT_ERROR), .unset, .unset]) rfl ?_
        show Steps p.tables e below (T144.setTop (mkF m 21 #[.val (.int p0), .val (.int p1), .val (.int (4 : Int32)), .val (.int (0 : Int32)), .val (.ref wPAYMENT_ERROR), .unset, .unset] [])) _
        refine XS.iloadN X144.here hx rfl (hb hby at_21) rfl ?_
        exact kt)
      rw [((by rw [f2, if_pos (rfl : (0 : Int32) = (0 : Int32))]) : (f2 (0 : Int32) wCARD_ERROR wPARTIAL wBALANCE wCREATE wPAYMENT_ERROR wLOAD wNO_TOPUP wORDINARY wBALANCE_ERROR) = (.ref wCREATE))] at hQ146
      obtain ⟨rfl, N146q, e146⟩ := hQ146
      have N146 := Fr.app N144 N146q
      obtain ⟨cq148, kq148, q148a, q148b, q148c⟩ := isOf hZ e146 EPAYMENT_ERROR
      obtain ⟨_, _, ⟨T148, L148, k148, n148⟩, -, X148, ⟨Lc148, hQ148, l148, y148, z148⟩, st148⟩ := X146.virtualBack hx (y := (⟨"com/example/cardstand/cardstand/scenario/CardScenario", "fails", "(Lcom/example/cardstand/cardstand/scenario/CardScenario$Operation;)Z"⟩ : MethodName)) (z := (⟨"com/example/cardstand/cardstand/scenario/CardScenario", "fails", "(Lcom/example/cardstand/cardstand/scenario/CardScenario$Operation;)Z"⟩ : MethodName)) hown (mvT hZ (hw _ (List.mem_of_getElem? (i := 11) rfl))) (mvT hZ (hw _ (List.mem_of_getElem? (i := 12) rfl))) (notFace_of_selects (args := #[]) (mvT hZ (hw _ (List.mem_of_getElem? (i := 14) rfl)))) (mvT hZ (hw _ (List.mem_of_getElem? (i := 14) rfl))) (mvT hZ (hw _ (List.mem_of_getElem? (i := 13) rfl))) (by decide) (backOf (W := 0) (rm3 l Z a0 hw [] wPAYMENT_ERROR wCREATE wLOAD wCARD_ERROR wPARTIAL wBALANCE wCREATE wPAYMENT_ERROR wLOAD wNO_TOPUP wORDINARY wBALANCE_ERROR h0 n0 Z0 W0 FPAYMENT_ERROR_failing) hZ (hw _ (List.mem_of_getElem? (i := 15) rfl)) (hw _ (List.mem_of_getElem? (i := 6) rfl)) (by decide) (by decide)) q148a q148c (g := (mkF m 66 #[.val (.int p0), .val (.int p1), .val (.int (4 : Int32)), .val (.int (0 : Int32)), .val (.ref wPAYMENT_ERROR), .val (.ref wCREATE), .val (.int (0 : Int32))] [(.ref wCREATE), (.ref wPAYMENT_ERROR)])) rfl (by rw [hml]; rfl) (Steps.refl _) (argsL := [(.ref wCREATE)]) (rest := []) (lenOf pd_2 rfl) rfl (by show 2 * 0 + _ ≤ _; exact Nat.le_of_eq rfl) (hb hby at_66) (fun _ _ => ⟨rfl, e146, (by decide : 0 + 0 ≤ _), (by decide : 0 + 0 ≤ _)⟩)
      dsimp only [Pt.U, Pt.locs, Pt.cells, Pt.slots] at X148 l148 y148 z148 st148 hQ148
      subst l148 y148 z148
      unfold Q3 at hQ148
      have k149 : ∀ t, Steps p.tables e below (T146.setTop (mkF m 66 #[.val (.int p0), .val (.int p1), .val (.int (4 : Int32)), .val (.int (0 : Int32)), .val (.ref wPAYMENT_ERROR), .val (.ref wCREATE), .val (.int (0 : Int32))] [(.ref wCREATE), (.ref wPAYMENT_ERROR)])) t → Steps p.tables e below (s₁.setTop (entryFrame m #[(.int p0), (.int p1)] maxLocals)) t := fun t kt => k147 t (by
        show Steps p.tables e below (T144.setTop (mkF m 22 #[.val (.int p0), .val (.int p1), .val (.int (4 : Int32)), .val (.int (0 : Int32)), .val (.ref wPAYMENT_ERROR), .unset, .unset] [(.int (0 : Int32))])) _
        refine st146 _ ?_
        show Steps p.tables e below (T146.setTop (mkF m 25 #[.val (.int p0), .val (.int p1), .val (.int (4 : Int32)), .val (.int (0 : Int32)), .val (.ref wPAYMENT_ERROR), .unset, .unset] [(.ref wCREATE)])) _
        refine XS.astore X146.here hx rfl (hb hby at_25) rfl rfl (l' := #[.val (.int p0), .val (.int p1), .val (.int (4 : Int32)), .val (.int (0 : Int32)), .val (.ref wPAYMENT_ERROR), .val (.ref wCREATE), .unset]) rfl ?_
        show Steps p.tables e below (T146.setTop (mkF m 27 #[.val (.int p0), .val (.int p1), .val (.int (4 : Int32)), .val (.int (0 : Int32)), .val (.ref wPAYMENT_ERROR), .val (.ref wCREATE), .unset] [])) _
        refine XS.iloadN X146.here hx rfl (hb hby at_27) rfl ?_
        show Steps p.tables e below (T146.setTop (mkF m 28 #[.val (.int p0), .val (.int p1), .val (.int (4 : Int32)), .val (.int (0 : Int32)), .val (.ref wPAYMENT_ERROR), .val (.ref wCREATE), .unset] [(.int (4 : Int32))])) _
        refine XS.ifYes X146.here hx rfl (pc0 := 28) (pc' := 35) rfl (hb hby at_28) rfl ((if0 _ _).trans (feq ((by decide) : ¬ ((4 : Int32) = (0 : Int32)))).2) (by decide) (by decide) ?_
        show Steps p.tables e below (T146.setTop (mkF m 35 #[.val (.int p0), .val (.int p1), .val (.int (4 : Int32)), .val (.int (0 : Int32)), .val (.ref wPAYMENT_ERROR), .val (.ref wCREATE), .unset] [])) _
        refine XS.iloadN X146.here hx rfl (hb hby at_35) rfl ?_
        show Steps p.tables e below (T146.setTop (mkF m 36 #[.val (.int p0), .val (.int p1), .val (.int (4 : Int32)), .val (.int (0 : Int32)), .val (.ref wPAYMENT_ERROR), .val (.ref wCREATE), .unset] [(.int (4 : Int32))])) _
        refine XS.iconst X146.here hx rfl (hb hby at_36) ?_
        show Steps p.tables e below (T146.setTop (mkF m 37 #[.val (.int p0), .val (.int p1), .val (.int (4 : Int32)), .val (.int (0 : Int32)), .val (.ref wPAYMENT_ERROR), .val (.ref wCREATE), .unset] [(.int (3 : Int32)), (.int (4 : Int32))])) _
        refine XS.icmpYes X146.here hx rfl (pc0 := 37) (pc' := 45) rfl (hb hby at_37) rfl (feq ((by decide) : ¬ ((4 : Int32) = (3 : Int32)))).2 (by decide) (by decide) ?_
        show Steps p.tables e below (T146.setTop (mkF m 45 #[.val (.int p0), .val (.int p1), .val (.int (4 : Int32)), .val (.int (0 : Int32)), .val (.ref wPAYMENT_ERROR), .val (.ref wCREATE), .unset] [])) _
        refine XS.iloadN X146.here hx rfl (hb hby at_45) rfl ?_
        show Steps p.tables e below (T146.setTop (mkF m 46 #[.val (.int p0), .val (.int p1), .val (.int (4 : Int32)), .val (.int (0 : Int32)), .val (.ref wPAYMENT_ERROR), .val (.ref wCREATE), .unset] [(.int (4 : Int32))])) _
        refine XS.iconst X146.here hx rfl (hb hby at_46) ?_
        show Steps p.tables e below (T146.setTop (mkF m 47 #[.val (.int p0), .val (.int p1), .val (.int (4 : Int32)), .val (.int (0 : Int32)), .val (.ref wPAYMENT_ERROR), .val (.ref wCREATE), .unset] [(.int (4 : Int32)), (.int (4 : Int32))])) _
        refine XS.icmpNo X146.here hx rfl (hb hby at_47) rfl (teq (rfl : (4 : Int32) = (4 : Int32))).2 ?_
        show Steps p.tables e below (T146.setTop (mkF m 50 #[.val (.int p0), .val (.int p1), .val (.int (4 : Int32)), .val (.int (0 : Int32)), .val (.ref wPAYMENT_ERROR), .val (.ref wCREATE), .unset] [])) _
        refine XS.iloadN X146.here hx rfl (hb hby at_50) rfl ?_
        show Steps p.tables e below (T146.setTop (mkF m 51 #[.val (.int p0), .val (.int p1), .val (.int (4 : Int32)), .val (.int (0 : Int32)), .val (.ref wPAYMENT_ERROR), .val (.ref wCREATE), .unset] [(.int (0 : Int32))])) _
        refine XS.iconst X146.here hx rfl (hb hby at_51) ?_
        show Steps p.tables e below (T146.setTop (mkF m 52 #[.val (.int p0), .val (.int p1), .val (.int (4 : Int32)), .val (.int (0 : Int32)), .val (.ref wPAYMENT_ERROR), .val (.ref wCREATE), .unset] [(.int (2 : Int32)), (.int (0 : Int32))])) _
        refine XS.icmpYes X146.here hx rfl (pc0 := 52) (pc' := 59) rfl (hb hby at_52) rfl (feq ((by decide) : ¬ ((0 : Int32) = (2 : Int32)))).2 (by decide) (by decide) ?_
        show Steps p.tables e below (T146.setTop (mkF m 59 #[.val (.int p0), .val (.int p1), .val (.int (4 : Int32)), .val (.int (0 : Int32)), .val (.ref wPAYMENT_ERROR), .val (.ref wCREATE), .unset] [])) _
        refine XS.iconst X146.here hx rfl (hb hby at_59) ?_
        show Steps p.tables e below (T146.setTop (mkF m 60 #[.val (.int p0), .val (.int p1), .val (.int (4 : Int32)), .val (.int (0 : Int32)), .val (.ref wPAYMENT_ERROR), .val (.ref wCREATE), .unset] [(.int (0 : Int32))])) _
        refine XS.istore X146.here hx rfl (hb hby at_60) rfl (l' := #[.val (.int p0), .val (.int p1), .val (.int (4 : Int32)), .val (.int (0 : Int32)), .val (.ref wPAYMENT_ERROR), .val (.ref wCREATE), .val (.int (0 : Int32))]) rfl ?_
        show Steps p.tables e below (T146.setTop (mkF m 62 #[.val (.int p0), .val (.int p1), .val (.int (4 : Int32)), .val (.int (0 : Int32)), .val (.ref wPAYMENT_ERROR), .val (.ref wCREATE), .val (.int (0 : Int32))] [])) _
        refine XS.aload X146.here hx rfl (hb hby at_62) rfl rfl ?_
        show Steps p.tables e below (T146.setTop (mkF m 64 #[.val (.int p0), .val (.int p1), .val (.int (4 : Int32)), .val (.int (0 : Int32)), .val (.ref wPAYMENT_ERROR), .val (.ref wCREATE), .val (.int (0 : Int32))] [(.ref wPAYMENT_ERROR)])) _
        refine XS.aload X146.here hx rfl (hb hby at_64) rfl rfl ?_
        exact kt)
      rw [((by rw [f3, if_neg ((Fld.ne FCREATE_ordinal FLOAD_ordinal (by decide)) : ¬ (wCREATE = wLOAD))]) : (f3 wPAYMENT_ERROR wCREATE wLOAD wCARD_ERROR wPARTIAL wBALANCE wCREATE wPAYMENT_ERROR wLOAD wNO_TOPUP wORDINARY wBALANCE_ERROR) = (0 : Int32))] at hQ148
      obtain ⟨rfl, N148q, e148⟩ := hQ148
      have N148 := Fr.app N146 N148q
      obtain ⟨fs, hr, hrun, hended, hW, hsame⟩ := X148.leave (v := some (.int (1 : Int32))) (fun h => by rw [Bd.returns] at h; cases h)
      refine ⟨_, _, k149 _ ?_, hrun, hended, _, _, rfl, ?_, ⟨_, rfl⟩, hW, hsame.mono (by decide) (by decide)⟩
      · show Steps p.tables e below (T146.setTop (mkF m 66 #[.val (.int p0), .val (.int p1), .val (.int (4 : Int32)), .val (.int (0 : Int32)), .val (.ref wPAYMENT_ERROR), .val (.ref wCREATE), .val (.int (0 : Int32))] [(.ref wCREATE), (.ref wPAYMENT_ERROR)])) _
        refine st148.trans ?_
        show Steps p.tables e below (T148.setTop (mkF m 69 #[.val (.int p0), .val (.int p1), .val (.int (4 : Int32)), .val (.int (0 : Int32)), .val (.ref wPAYMENT_ERROR), .val (.ref wCREATE), .val (.int (0 : Int32))] [(.int (0 : Int32))])) _
        refine XS.iload X148.here hx rfl (hb hby at_69) rfl ?_
        show Steps p.tables e below (T148.setTop (mkF m 71 #[.val (.int p0), .val (.int p1), .val (.int (4 : Int32)), .val (.int (0 : Int32)), .val (.ref wPAYMENT_ERROR), .val (.ref wCREATE), .val (.int (0 : Int32))] [(.int (0 : Int32)), (.int (0 : Int32))])) _
        refine XS.icmpNo X148.here hx rfl (hb hby at_71) rfl (teq (rfl : (0 : Int32) = (0 : Int32))).2 ?_
        show Steps p.tables e below (T148.setTop (mkF m 74 #[.val (.int p0), .val (.int p1), .val (.int (4 : Int32)), .val (.int (0 : Int32)), .val (.ref wPAYMENT_ERROR), .val (.ref wCREATE), .val (.int (0 : Int32))] [])) _
        refine XS.iconst X148.here hx rfl (hb hby at_74) ?_
        show Steps p.tables e below (T148.setTop (mkF m 75 #[.val (.int p0), .val (.int p1), .val (.int (4 : Int32)), .val (.int (0 : Int32)), .val (.ref wPAYMENT_ERROR), .val (.ref wCREATE), .val (.int (0 : Int32))] [(.int (1 : Int32))])) _
        refine XS.goto X148.here hx rfl (pc0 := 75) (pc' := 79) rfl (hb hby at_75) (by decide) (by decide) ?_
        show Steps p.tables e below (T148.setTop (mkF m 79 #[.val (.int p0), .val (.int p1), .val (.int (4 : Int32)), .val (.int (0 : Int32)), .val (.ref wPAYMENT_ERROR), .val (.ref wCREATE), .val (.int (0 : Int32))] [(.int (1 : Int32))])) _
        exact retN X148 hx (t := .boolean) Bd.returns (by simp) (hb hby at_79) hr
      · show Q0 Z p0 p1 wCARD_ERROR wPARTIAL wBALANCE wCREATE wPAYMENT_ERROR wLOAD wNO_TOPUP wORDINARY wBALANCE_ERROR h0 n0 _ T148.heap _
        rw [e148]
        exact ⟨rfl, N148⟩
    · subst hv143
      obtain ⟨_, _, ⟨T150, L150, k150, n150⟩, -, X150, ⟨Lc150, hQ150, l150, y150, z150⟩, st150⟩ := Jvm.LawKit.callS X0 hx (y := (⟨"com/example/cardstand/cardstand/scenario/CardScenarioFailsPinLaw", "scenario", "(I)Lcom/example/cardstand/cardstand/scenario/CardScenario;"⟩ : MethodName)) hown (mvT hZ (hw _ (List.mem_of_getElem? (i := 1) rfl))) (mvT hZ (hw _ (List.mem_of_getElem? (i := 2) rfl))) (mvT hZ (hw _ (List.mem_of_getElem? (i := 3) rfl))) (mvT hZ (hw _ (List.mem_of_getElem? (i := 4) rfl))) (by decide) (backOf (W := 0) (rm1 l Z a0 hw [] (4 : Int32) wCARD_ERROR wPARTIAL wBALANCE wCREATE wPAYMENT_ERROR wLOAD wNO_TOPUP wORDINARY wBALANCE_ERROR h0 n0 Z0 W0 ) hZ (hw _ (List.mem_of_getElem? (i := 4) rfl)) (hw _ (List.mem_of_getElem? (i := 3) rfl)) (by decide) (by decide)) (g := (mkF m 16 #[.val (.int p0), .val (.int p1), .val (.int (4 : Int32)), .val (.int (1 : Int32)), .unset, .unset, .unset] [(.int (4 : Int32))])) rfl (by rw [hml]; rfl) (argsL := [(.int (4 : Int32))]) (rest := []) (lenOf pd_0 rfl) rfl (by show 2 * 0 + _ ≤ _; exact Nat.le_of_eq rfl) (hb hby at_16) (fun _ _ => ⟨rfl, e0, (by decide : 0 + 0 ≤ _), (by decide : 0 + 0 ≤ _)⟩)
      dsimp only [Pt.U, Pt.locs, Pt.cells, Pt.slots] at X150 l150 y150 z150 st150 hQ150
      subst l150 y150 z150
      unfold Q1 at hQ150
      have k151 : ∀ t, Steps p.tables e below (s₁.setTop (mkF m 16 #[.val (.int p0), .val (.int p1), .val (.int (4 : Int32)), .val (.int (1 : Int32)), .unset, .unset, .unset] [(.int (4 : Int32))])) t → Steps p.tables e below (s₁.setTop (entryFrame m #[(.int p0), (.int p1)] maxLocals)) t := fun t kt => k142 t (by
        show Steps p.tables e below (s₁.setTop (mkF m 15 #[.val (.int p0), .val (.int p1), .val (.int (4 : Int32)), .val (.int (1 : Int32)), .unset, .unset, .unset] [])) _
        refine XS.iloadN X0.here hx rfl (hb hby at_15) rfl ?_
        exact kt)
      rw [((by rw [f1, if_neg ((by decide) : ¬ ((4 : Int32) = (0 : Int32))), if_neg ((by decide) : ¬ ((4 : Int32) = (1 : Int32))), if_neg ((by decide) : ¬ ((4 : Int32) = (2 : Int32))), if_neg ((by decide) : ¬ ((4 : Int32) = (3 : Int32))), if_pos (rfl : (4 : Int32) = (4 : Int32))]) : (f1 (4 : Int32) wCARD_ERROR wPARTIAL wBALANCE wCREATE wPAYMENT_ERROR wLOAD wNO_TOPUP wORDINARY wBALANCE_ERROR) = wPAYMENT_ERROR)] at hQ150
      obtain ⟨rfl, N150q, e150⟩ := hQ150
      have N150 := Fr.app N0 N150q
      obtain ⟨_, _, ⟨T152, L152, k152, n152⟩, -, X152, ⟨Lc152, hQ152, l152, y152, z152⟩, st152⟩ := Jvm.LawKit.callS X150 hx (y := (⟨"com/example/cardstand/cardstand/scenario/CardScenarioFailsPinLaw", "operation", "(I)Lcom/example/cardstand/cardstand/scenario/CardScenario$Operation;"⟩ : MethodName)) hown (mvT hZ (hw _ (List.mem_of_getElem? (i := 8) rfl))) (mvT hZ (hw _ (List.mem_of_getElem? (i := 9) rfl))) (mvT hZ (hw _ (List.mem_of_getElem? (i := 3) rfl))) (mvT hZ (hw _ (List.mem_of_getElem? (i := 10) rfl))) (by decide) (backOf (W := 0) (rm2 l Z a0 hw [] (1 : Int32) wCARD_ERROR wPARTIAL wBALANCE wCREATE wPAYMENT_ERROR wLOAD wNO_TOPUP wORDINARY wBALANCE_ERROR h0 n0 Z0 W0 ) hZ (hw _ (List.mem_of_getElem? (i := 10) rfl)) (hw _ (List.mem_of_getElem? (i := 3) rfl)) (by decide) (by decide)) (g := (mkF m 22 #[.val (.int p0), .val (.int p1), .val (.int (4 : Int32)), .val (.int (1 : Int32)), .val (.ref wPAYMENT_ERROR), .unset, .unset] [(.int (1 : Int32))])) rfl (by rw [hml]; rfl) (argsL := [(.int (1 : Int32))]) (rest := []) (lenOf pd_1 rfl) rfl (by show 2 * 0 + _ ≤ _; exact Nat.le_of_eq rfl) (hb hby at_22) (fun _ _ => ⟨rfl, e150, (by decide : 0 + 0 ≤ _), (by decide : 0 + 0 ≤ _)⟩)
      dsimp only [Pt.U, Pt.locs, Pt.cells, Pt.slots] at X152 l152 y152 z152 st152 hQ152
      subst l152 y152 z152
      unfold Q2 at hQ152
      have k153 : ∀ t, Steps p.tables e below (T150.setTop (mkF m 22 #[.val (.int p0), .val (.int p1), .val (.int (4 : Int32)), .val (.int (1 : Int32)), .val (.ref wPAYMENT_ERROR), .unset, .unset] [(.int (1 : Int32))])) t → Steps p.tables e below (s₁.setTop (entryFrame m #[(.int p0), (.int p1)] maxLocals)) t := fun t kt => k151 t (by
        show Steps p.tables e below (s₁.setTop (mkF m 16 #[.val (.int p0), .val (.int p1), .val (.int (4 : Int32)), .val (.int (1 : Int32)), .unset, .unset, .unset] [(.int (4 : Int32))])) _
        refine st150 _ ?_
        show Steps p.tables e below (T150.setTop (mkF m 19 #[.val (.int p0), .val (.int p1), .val (.int (4 : Int32)), .val (.int (1 : Int32)), .unset, .unset, .unset] [(.ref wPAYMENT_ERROR)])) _
        refine XS.astore X150.here hx rfl (hb hby at_19) rfl rfl (l' := #[.val (.int p0), .val (.int p1), .val (.int (4 : Int32)), .val (.int (1 : Int32)), .val (.ref wPAYMENT_ERROR), .unset, .unset]) rfl ?_
        show Steps p.tables e below (T150.setTop (mkF m 21 #[.val (.int p0), .val (.int p1), .val (.int (4 : Int32)), .val (.int (1 : Int32)), .val (.ref wPAYMENT_ERROR), .unset, .unset] [])) _
        refine XS.iloadN X150.here hx rfl (hb hby at_21) rfl ?_
        exact kt)
      rw [((by rw [f2, if_neg ((by decide) : ¬ ((1 : Int32) = (0 : Int32))), if_pos (rfl : (1 : Int32) = (1 : Int32))]) : (f2 (1 : Int32) wCARD_ERROR wPARTIAL wBALANCE wCREATE wPAYMENT_ERROR wLOAD wNO_TOPUP wORDINARY wBALANCE_ERROR) = (.ref wBALANCE))] at hQ152
      obtain ⟨rfl, N152q, e152⟩ := hQ152
      have N152 := Fr.app N150 N152q
      obtain ⟨cq154, kq154, q154a, q154b, q154c⟩ := isOf hZ e152 EPAYMENT_ERROR
      obtain ⟨_, _, ⟨T154, L154, k154, n154⟩, -, X154, ⟨Lc154, hQ154, l154, y154, z154⟩, st154⟩ := X152.virtualBack hx (y := (⟨"com/example/cardstand/cardstand/scenario/CardScenario", "fails", "(Lcom/example/cardstand/cardstand/scenario/CardScenario$Operation;)Z"⟩ : MethodName)) (z := (⟨"com/example/cardstand/cardstand/scenario/CardScenario", "fails", "(Lcom/example/cardstand/cardstand/scenario/CardScenario$Operation;)Z"⟩ : MethodName)) hown (mvT hZ (hw _ (List.mem_of_getElem? (i := 11) rfl))) (mvT hZ (hw _ (List.mem_of_getElem? (i := 12) rfl))) (notFace_of_selects (args := #[]) (mvT hZ (hw _ (List.mem_of_getElem? (i := 14) rfl)))) (mvT hZ (hw _ (List.mem_of_getElem? (i := 14) rfl))) (mvT hZ (hw _ (List.mem_of_getElem? (i := 13) rfl))) (by decide) (backOf (W := 0) (rm3 l Z a0 hw [] wPAYMENT_ERROR wBALANCE wLOAD wCARD_ERROR wPARTIAL wBALANCE wCREATE wPAYMENT_ERROR wLOAD wNO_TOPUP wORDINARY wBALANCE_ERROR h0 n0 Z0 W0 FPAYMENT_ERROR_failing) hZ (hw _ (List.mem_of_getElem? (i := 15) rfl)) (hw _ (List.mem_of_getElem? (i := 6) rfl)) (by decide) (by decide)) q154a q154c (g := (mkF m 66 #[.val (.int p0), .val (.int p1), .val (.int (4 : Int32)), .val (.int (1 : Int32)), .val (.ref wPAYMENT_ERROR), .val (.ref wBALANCE), .val (.int (0 : Int32))] [(.ref wBALANCE), (.ref wPAYMENT_ERROR)])) rfl (by rw [hml]; rfl) (Steps.refl _) (argsL := [(.ref wBALANCE)]) (rest := []) (lenOf pd_2 rfl) rfl (by show 2 * 0 + _ ≤ _; exact Nat.le_of_eq rfl) (hb hby at_66) (fun _ _ => ⟨rfl, e152, (by decide : 0 + 0 ≤ _), (by decide : 0 + 0 ≤ _)⟩)
      dsimp only [Pt.U, Pt.locs, Pt.cells, Pt.slots] at X154 l154 y154 z154 st154 hQ154
      subst l154 y154 z154
      unfold Q3 at hQ154
      have k155 : ∀ t, Steps p.tables e below (T152.setTop (mkF m 66 #[.val (.int p0), .val (.int p1), .val (.int (4 : Int32)), .val (.int (1 : Int32)), .val (.ref wPAYMENT_ERROR), .val (.ref wBALANCE), .val (.int (0 : Int32))] [(.ref wBALANCE), (.ref wPAYMENT_ERROR)])) t → Steps p.tables e below (s₁.setTop (entryFrame m #[(.int p0), (.int p1)] maxLocals)) t := fun t kt => k153 t (by
        show Steps p.tables e below (T150.setTop (mkF m 22 #[.val (.int p0), .val (.int p1), .val (.int (4 : Int32)), .val (.int (1 : Int32)), .val (.ref wPAYMENT_ERROR), .unset, .unset] [(.int (1 : Int32))])) _
        refine st152 _ ?_
        show Steps p.tables e below (T152.setTop (mkF m 25 #[.val (.int p0), .val (.int p1), .val (.int (4 : Int32)), .val (.int (1 : Int32)), .val (.ref wPAYMENT_ERROR), .unset, .unset] [(.ref wBALANCE)])) _
        refine XS.astore X152.here hx rfl (hb hby at_25) rfl rfl (l' := #[.val (.int p0), .val (.int p1), .val (.int (4 : Int32)), .val (.int (1 : Int32)), .val (.ref wPAYMENT_ERROR), .val (.ref wBALANCE), .unset]) rfl ?_
        show Steps p.tables e below (T152.setTop (mkF m 27 #[.val (.int p0), .val (.int p1), .val (.int (4 : Int32)), .val (.int (1 : Int32)), .val (.ref wPAYMENT_ERROR), .val (.ref wBALANCE), .unset] [])) _
        refine XS.iloadN X152.here hx rfl (hb hby at_27) rfl ?_
        show Steps p.tables e below (T152.setTop (mkF m 28 #[.val (.int p0), .val (.int p1), .val (.int (4 : Int32)), .val (.int (1 : Int32)), .val (.ref wPAYMENT_ERROR), .val (.ref wBALANCE), .unset] [(.int (4 : Int32))])) _
        refine XS.ifYes X152.here hx rfl (pc0 := 28) (pc' := 35) rfl (hb hby at_28) rfl ((if0 _ _).trans (feq ((by decide) : ¬ ((4 : Int32) = (0 : Int32)))).2) (by decide) (by decide) ?_
        show Steps p.tables e below (T152.setTop (mkF m 35 #[.val (.int p0), .val (.int p1), .val (.int (4 : Int32)), .val (.int (1 : Int32)), .val (.ref wPAYMENT_ERROR), .val (.ref wBALANCE), .unset] [])) _
        refine XS.iloadN X152.here hx rfl (hb hby at_35) rfl ?_
        show Steps p.tables e below (T152.setTop (mkF m 36 #[.val (.int p0), .val (.int p1), .val (.int (4 : Int32)), .val (.int (1 : Int32)), .val (.ref wPAYMENT_ERROR), .val (.ref wBALANCE), .unset] [(.int (4 : Int32))])) _
        refine XS.iconst X152.here hx rfl (hb hby at_36) ?_
        show Steps p.tables e below (T152.setTop (mkF m 37 #[.val (.int p0), .val (.int p1), .val (.int (4 : Int32)), .val (.int (1 : Int32)), .val (.ref wPAYMENT_ERROR), .val (.ref wBALANCE), .unset] [(.int (3 : Int32)), (.int (4 : Int32))])) _
        refine XS.icmpYes X152.here hx rfl (pc0 := 37) (pc' := 45) rfl (hb hby at_37) rfl (feq ((by decide) : ¬ ((4 : Int32) = (3 : Int32)))).2 (by decide) (by decide) ?_
        show Steps p.tables e below (T152.setTop (mkF m 45 #[.val (.int p0), .val (.int p1), .val (.int (4 : Int32)), .val (.int (1 : Int32)), .val (.ref wPAYMENT_ERROR), .val (.ref wBALANCE), .unset] [])) _
        refine XS.iloadN X152.here hx rfl (hb hby at_45) rfl ?_
        show Steps p.tables e below (T152.setTop (mkF m 46 #[.val (.int p0), .val (.int p1), .val (.int (4 : Int32)), .val (.int (1 : Int32)), .val (.ref wPAYMENT_ERROR), .val (.ref wBALANCE), .unset] [(.int (4 : Int32))])) _
        refine XS.iconst X152.here hx rfl (hb hby at_46) ?_
        show Steps p.tables e below (T152.setTop (mkF m 47 #[.val (.int p0), .val (.int p1), .val (.int (4 : Int32)), .val (.int (1 : Int32)), .val (.ref wPAYMENT_ERROR), .val (.ref wBALANCE), .unset] [(.int (4 : Int32)), (.int (4 : Int32))])) _
        refine XS.icmpNo X152.here hx rfl (hb hby at_47) rfl (teq (rfl : (4 : Int32) = (4 : Int32))).2 ?_
        show Steps p.tables e below (T152.setTop (mkF m 50 #[.val (.int p0), .val (.int p1), .val (.int (4 : Int32)), .val (.int (1 : Int32)), .val (.ref wPAYMENT_ERROR), .val (.ref wBALANCE), .unset] [])) _
        refine XS.iloadN X152.here hx rfl (hb hby at_50) rfl ?_
        show Steps p.tables e below (T152.setTop (mkF m 51 #[.val (.int p0), .val (.int p1), .val (.int (4 : Int32)), .val (.int (1 : Int32)), .val (.ref wPAYMENT_ERROR), .val (.ref wBALANCE), .unset] [(.int (1 : Int32))])) _
        refine XS.iconst X152.here hx rfl (hb hby at_51) ?_
        show Steps p.tables e below (T152.setTop (mkF m 52 #[.val (.int p0), .val (.int p1), .val (.int (4 : Int32)), .val (.int (1 : Int32)), .val (.ref wPAYMENT_ERROR), .val (.ref wBALANCE), .unset] [(.int (2 : Int32)), (.int (1 : Int32))])) _
        refine XS.icmpYes X152.here hx rfl (pc0 := 52) (pc' := 59) rfl (hb hby at_52) rfl (feq ((by decide) : ¬ ((1 : Int32) = (2 : Int32)))).2 (by decide) (by decide) ?_
        show Steps p.tables e below (T152.setTop (mkF m 59 #[.val (.int p0), .val (.int p1), .val (.int (4 : Int32)), .val (.int (1 : Int32)), .val (.ref wPAYMENT_ERROR), .val (.ref wBALANCE), .unset] [])) _
        refine XS.iconst X152.here hx rfl (hb hby at_59) ?_
        show Steps p.tables e below (T152.setTop (mkF m 60 #[.val (.int p0), .val (.int p1), .val (.int (4 : Int32)), .val (.int (1 : Int32)), .val (.ref wPAYMENT_ERROR), .val (.ref wBALANCE), .unset] [(.int (0 : Int32))])) _
        refine XS.istore X152.here hx rfl (hb hby at_60) rfl (l' := #[.val (.int p0), .val (.int p1), .val (.int (4 : Int32)), .val (.int (1 : Int32)), .val (.ref wPAYMENT_ERROR), .val (.ref wBALANCE), .val (.int (0 : Int32))]) rfl ?_
        show Steps p.tables e below (T152.setTop (mkF m 62 #[.val (.int p0), .val (.int p1), .val (.int (4 : Int32)), .val (.int (1 : Int32)), .val (.ref wPAYMENT_ERROR), .val (.ref wBALANCE), .val (.int (0 : Int32))] [])) _
        refine XS.aload X152.here hx rfl (hb hby at_62) rfl rfl ?_
        show Steps p.tables e below (T152.setTop (mkF m 64 #[.val (.int p0), .val (.int p1), .val (.int (4 : Int32)), .val (.int (1 : Int32)), .val (.ref wPAYMENT_ERROR), .val (.ref wBALANCE), .val (.int (0 : Int32))] [(.ref wPAYMENT_ERROR)])) _
        refine XS.aload X152.here hx rfl (hb hby at_64) rfl rfl ?_
        exact kt)
      rw [((by rw [f3, if_neg ((Fld.ne FBALANCE_ordinal FLOAD_ordinal (by decide)) : ¬ (wBALANCE = wLOAD))]) : (f3 wPAYMENT_ERROR wBALANCE wLOAD wCARD_ERROR wPARTIAL wBALANCE wCREATE wPAYMENT_ERROR wLOAD wNO_TOPUP wORDINARY wBALANCE_ERROR) = (0 : Int32))] at hQ154
      obtain ⟨rfl, N154q, e154⟩ := hQ154
      have N154 := Fr.app N152 N154q
      obtain ⟨fs, hr, hrun, hended, hW, hsame⟩ := X154.leave (v := some (.int (1 : Int32))) (fun h => by rw [Bd.returns] at h; cases h)
      refine ⟨_, _, k155 _ ?_, hrun, hended, _, _, rfl, ?_, ⟨_, rfl⟩, hW, hsame.mono (by decide) (by decide)⟩
      · show Steps p.tables e below (T152.setTop (mkF m 66 #[.val (.int p0), .val (.int p1), .val (.int (4 : Int32)), .val (.int (1 : Int32)), .val (.ref wPAYMENT_ERROR), .val (.ref wBALANCE), .val (.int (0 : Int32))] [(.ref wBALANCE), (.ref wPAYMENT_ERROR)])) _
        refine st154.trans ?_
        show Steps p.tables e below (T154.setTop (mkF m 69 #[.val (.int p0), .val (.int p1), .val (.int (4 : Int32)), .val (.int (1 : Int32)), .val (.ref wPAYMENT_ERROR), .val (.ref wBALANCE), .val (.int (0 : Int32))] [(.int (0 : Int32))])) _
        refine XS.iload X154.here hx rfl (hb hby at_69) rfl ?_
        show Steps p.tables e below (T154.setTop (mkF m 71 #[.val (.int p0), .val (.int p1), .val (.int (4 : Int32)), .val (.int (1 : Int32)), .val (.ref wPAYMENT_ERROR), .val (.ref wBALANCE), .val (.int (0 : Int32))] [(.int (0 : Int32)), (.int (0 : Int32))])) _
        refine XS.icmpNo X154.here hx rfl (hb hby at_71) rfl (teq (rfl : (0 : Int32) = (0 : Int32))).2 ?_
        show Steps p.tables e below (T154.setTop (mkF m 74 #[.val (.int p0), .val (.int p1), .val (.int (4 : Int32)), .val (.int (1 : Int32)), .val (.ref wPAYMENT_ERROR), .val (.ref wBALANCE), .val (.int (0 : Int32))] [])) _
        refine XS.iconst X154.here hx rfl (hb hby at_74) ?_
        show Steps p.tables e below (T154.setTop (mkF m 75 #[.val (.int p0), .val (.int p1), .val (.int (4 : Int32)), .val (.int (1 : Int32)), .val (.ref wPAYMENT_ERROR), .val (.ref wBALANCE), .val (.int (0 : Int32))] [(.int (1 : Int32))])) _
        refine XS.goto X154.here hx rfl (pc0 := 75) (pc' := 79) rfl (hb hby at_75) (by decide) (by decide) ?_
        show Steps p.tables e below (T154.setTop (mkF m 79 #[.val (.int p0), .val (.int p1), .val (.int (4 : Int32)), .val (.int (1 : Int32)), .val (.ref wPAYMENT_ERROR), .val (.ref wBALANCE), .val (.int (0 : Int32))] [(.int (1 : Int32))])) _
        exact retN X154 hx (t := .boolean) Bd.returns (by simp) (hb hby at_79) hr
      · show Q0 Z p0 p1 wCARD_ERROR wPARTIAL wBALANCE wCREATE wPAYMENT_ERROR wLOAD wNO_TOPUP wORDINARY wBALANCE_ERROR h0 n0 _ T154.heap _
        rw [e154]
        exact ⟨rfl, N154⟩
    · subst hv143
      obtain ⟨_, _, ⟨T156, L156, k156, n156⟩, -, X156, ⟨Lc156, hQ156, l156, y156, z156⟩, st156⟩ := Jvm.LawKit.callS X0 hx (y := (⟨"com/example/cardstand/cardstand/scenario/CardScenarioFailsPinLaw", "scenario", "(I)Lcom/example/cardstand/cardstand/scenario/CardScenario;"⟩ : MethodName)) hown (mvT hZ (hw _ (List.mem_of_getElem? (i := 1) rfl))) (mvT hZ (hw _ (List.mem_of_getElem? (i := 2) rfl))) (mvT hZ (hw _ (List.mem_of_getElem? (i := 3) rfl))) (mvT hZ (hw _ (List.mem_of_getElem? (i := 4) rfl))) (by decide) (backOf (W := 0) (rm1 l Z a0 hw [] (4 : Int32) wCARD_ERROR wPARTIAL wBALANCE wCREATE wPAYMENT_ERROR wLOAD wNO_TOPUP wORDINARY wBALANCE_ERROR h0 n0 Z0 W0 ) hZ (hw _ (List.mem_of_getElem? (i := 4) rfl)) (hw _ (List.mem_of_getElem? (i := 3) rfl)) (by decide) (by decide)) (g := (mkF m 16 #[.val (.int p0), .val (.int p1), .val (.int (4 : Int32)), .val (.int (2 : Int32)), .unset, .unset, .unset] [(.int (4 : Int32))])) rfl (by rw [hml]; rfl) (argsL := [(.int (4 : Int32))]) (rest := []) (lenOf pd_0 rfl) rfl (by show 2 * 0 + _ ≤ _; exact Nat.le_of_eq rfl) (hb hby at_16) (fun _ _ => ⟨rfl, e0, (by decide : 0 + 0 ≤ _), (by decide : 0 + 0 ≤ _)⟩)
      dsimp only [Pt.U, Pt.locs, Pt.cells, Pt.slots] at X156 l156 y156 z156 st156 hQ156
      subst l156 y156 z156
      unfold Q1 at hQ156
      have k157 : ∀ t, Steps p.tables e below (s₁.setTop (mkF m 16 #[.val (.int p0), .val (.int p1), .val (.int (4 : Int32)), .val (.int (2 : Int32)), .unset, .unset, .unset] [(.int (4 : Int32))])) t → Steps p.tables e below (s₁.setTop (entryFrame m #[(.int p0), (.int p1)] maxLocals)) t := fun t kt => k142 t (by
        show Steps p.tables e below (s₁.setTop (mkF m 15 #[.val (.int p0), .val (.int p1), .val (.int (4 : Int32)), .val (.int (2 : Int32)), .unset, .unset, .unset] [])) _
        refine XS.iloadN X0.here hx rfl (hb hby at_15) rfl ?_
        exact kt)
      rw [((by rw [f1, if_neg ((by decide) : ¬ ((4 : Int32) = (0 : Int32))), if_neg ((by decide) : ¬ ((4 : Int32) = (1 : Int32))), if_neg ((by decide) : ¬ ((4 : Int32) = (2 : Int32))), if_neg ((by decide) : ¬ ((4 : Int32) = (3 : Int32))), if_pos (rfl : (4 : Int32) = (4 : Int32))]) : (f1 (4 : Int32) wCARD_ERROR wPARTIAL wBALANCE wCREATE wPAYMENT_ERROR wLOAD wNO_TOPUP wORDINARY wBALANCE_ERROR) = wPAYMENT_ERROR)] at hQ156
      obtain ⟨rfl, N156q, e156⟩ := hQ156
      have N156 := Fr.app N0 N156q
      obtain ⟨_, _, ⟨T158, L158, k158, n158⟩, -, X158, ⟨Lc158, hQ158, l158, y158, z158⟩, st158⟩ := Jvm.LawKit.callS X156 hx (y := (⟨"com/example/cardstand/cardstand/scenario/CardScenarioFailsPinLaw", "operation", "(I)Lcom/example/cardstand/cardstand/scenario/CardScenario$Operation;"⟩ : MethodName)) hown (mvT hZ (hw _ (List.mem_of_getElem? (i := 8) rfl))) (mvT hZ (hw _ (List.mem_of_getElem? (i := 9) rfl))) (mvT hZ (hw _ (List.mem_of_getElem? (i := 3) rfl))) (mvT hZ (hw _ (List.mem_of_getElem? (i := 10) rfl))) (by decide) (backOf (W := 0) (rm2 l Z a0 hw [] (2 : Int32) wCARD_ERROR wPARTIAL wBALANCE wCREATE wPAYMENT_ERROR wLOAD wNO_TOPUP wORDINARY wBALANCE_ERROR h0 n0 Z0 W0 ) hZ (hw _ (List.mem_of_getElem? (i := 10) rfl)) (hw _ (List.mem_of_getElem? (i := 3) rfl)) (by decide) (by decide)) (g := (mkF m 22 #[.val (.int p0), .val (.int p1), .val (.int (4 : Int32)), .val (.int (2 : Int32)), .val (.ref wPAYMENT_ERROR), .unset, .unset] [(.int (2 : Int32))])) rfl (by rw [hml]; rfl) (argsL := [(.int (2 : Int32))]) (rest := []) (lenOf pd_1 rfl) rfl (by show 2 * 0 + _ ≤ _; exact Nat.le_of_eq rfl) (hb hby at_22) (fun _ _ => ⟨rfl, e156, (by decide : 0 + 0 ≤ _), (by decide : 0 + 0 ≤ _)⟩)
      dsimp only [Pt.U, Pt.locs, Pt.cells, Pt.slots] at X158 l158 y158 z158 st158 hQ158
      subst l158 y158 z158
      unfold Q2 at hQ158
      have k159 : ∀ t, Steps p.tables e below (T156.setTop (mkF m 22 #[.val (.int p0), .val (.int p1), .val (.int (4 : Int32)), .val (.int (2 : Int32)), .val (.ref wPAYMENT_ERROR), .unset, .unset] [(.int (2 : Int32))])) t → Steps p.tables e below (s₁.setTop (entryFrame m #[(.int p0), (.int p1)] maxLocals)) t := fun t kt => k157 t (by
        show Steps p.tables e below (s₁.setTop (mkF m 16 #[.val (.int p0), .val (.int p1), .val (.int (4 : Int32)), .val (.int (2 : Int32)), .unset, .unset, .unset] [(.int (4 : Int32))])) _
        refine st156 _ ?_
        show Steps p.tables e below (T156.setTop (mkF m 19 #[.val (.int p0), .val (.int p1), .val (.int (4 : Int32)), .val (.int (2 : Int32)), .unset, .unset, .unset] [(.ref wPAYMENT_ERROR)])) _
        refine XS.astore X156.here hx rfl (hb hby at_19) rfl rfl (l' := #[.val (.int p0), .val (.int p1), .val (.int (4 : Int32)), .val (.int (2 : Int32)), .val (.ref wPAYMENT_ERROR), .unset, .unset]) rfl ?_
        show Steps p.tables e below (T156.setTop (mkF m 21 #[.val (.int p0), .val (.int p1), .val (.int (4 : Int32)), .val (.int (2 : Int32)), .val (.ref wPAYMENT_ERROR), .unset, .unset] [])) _
        refine XS.iloadN X156.here hx rfl (hb hby at_21) rfl ?_
        exact kt)
      rw [((by rw [f2, if_neg ((by decide) : ¬ ((2 : Int32) = (0 : Int32))), if_neg ((by decide) : ¬ ((2 : Int32) = (1 : Int32))), if_pos (rfl : (2 : Int32) = (2 : Int32))]) : (f2 (2 : Int32) wCARD_ERROR wPARTIAL wBALANCE wCREATE wPAYMENT_ERROR wLOAD wNO_TOPUP wORDINARY wBALANCE_ERROR) = (.ref wLOAD))] at hQ158
      obtain ⟨rfl, N158q, e158⟩ := hQ158
      have N158 := Fr.app N156 N158q
      obtain ⟨cq160, kq160, q160a, q160b, q160c⟩ := isOf hZ e158 EPAYMENT_ERROR
      obtain ⟨_, _, ⟨T160, L160, k160, n160⟩, -, X160, ⟨Lc160, hQ160, l160, y160, z160⟩, st160⟩ := X158.virtualBack hx (y := (⟨"com/example/cardstand/cardstand/scenario/CardScenario", "fails", "(Lcom/example/cardstand/cardstand/scenario/CardScenario$Operation;)Z"⟩ : MethodName)) (z := (⟨"com/example/cardstand/cardstand/scenario/CardScenario", "fails", "(Lcom/example/cardstand/cardstand/scenario/CardScenario$Operation;)Z"⟩ : MethodName)) hown (mvT hZ (hw _ (List.mem_of_getElem? (i := 11) rfl))) (mvT hZ (hw _ (List.mem_of_getElem? (i := 12) rfl))) (notFace_of_selects (args := #[]) (mvT hZ (hw _ (List.mem_of_getElem? (i := 14) rfl)))) (mvT hZ (hw _ (List.mem_of_getElem? (i := 14) rfl))) (mvT hZ (hw _ (List.mem_of_getElem? (i := 13) rfl))) (by decide) (backOf (W := 0) (rm3 l Z a0 hw [] wPAYMENT_ERROR wLOAD wLOAD wCARD_ERROR wPARTIAL wBALANCE wCREATE wPAYMENT_ERROR wLOAD wNO_TOPUP wORDINARY wBALANCE_ERROR h0 n0 Z0 W0 FPAYMENT_ERROR_failing) hZ (hw _ (List.mem_of_getElem? (i := 15) rfl)) (hw _ (List.mem_of_getElem? (i := 6) rfl)) (by decide) (by decide)) q160a q160c (g := (mkF m 66 #[.val (.int p0), .val (.int p1), .val (.int (4 : Int32)), .val (.int (2 : Int32)), .val (.ref wPAYMENT_ERROR), .val (.ref wLOAD), .val (.int (1 : Int32))] [(.ref wLOAD), (.ref wPAYMENT_ERROR)])) rfl (by rw [hml]; rfl) (Steps.refl _) (argsL := [(.ref wLOAD)]) (rest := []) (lenOf pd_2 rfl) rfl (by show 2 * 0 + _ ≤ _; exact Nat.le_of_eq rfl) (hb hby at_66) (fun _ _ => ⟨rfl, e158, (by decide : 0 + 0 ≤ _), (by decide : 0 + 0 ≤ _)⟩)
      dsimp only [Pt.U, Pt.locs, Pt.cells, Pt.slots] at X160 l160 y160 z160 st160 hQ160
      subst l160 y160 z160
      unfold Q3 at hQ160
      have k161 : ∀ t, Steps p.tables e below (T158.setTop (mkF m 66 #[.val (.int p0), .val (.int p1), .val (.int (4 : Int32)), .val (.int (2 : Int32)), .val (.ref wPAYMENT_ERROR), .val (.ref wLOAD), .val (.int (1 : Int32))] [(.ref wLOAD), (.ref wPAYMENT_ERROR)])) t → Steps p.tables e below (s₁.setTop (entryFrame m #[(.int p0), (.int p1)] maxLocals)) t := fun t kt => k159 t (by
        show Steps p.tables e below (T156.setTop (mkF m 22 #[.val (.int p0), .val (.int p1), .val (.int (4 : Int32)), .val (.int (2 : Int32)), .val (.ref wPAYMENT_ERROR), .unset, .unset] [(.int (2 : Int32))])) _
        refine st158 _ ?_
        show Steps p.tables e below (T158.setTop (mkF m 25 #[.val (.int p0), .val (.int p1), .val (.int (4 : Int32)), .val (.int (2 : Int32)), .val (.ref wPAYMENT_ERROR), .unset, .unset] [(.ref wLOAD)])) _
        refine XS.astore X158.here hx rfl (hb hby at_25) rfl rfl (l' := #[.val (.int p0), .val (.int p1), .val (.int (4 : Int32)), .val (.int (2 : Int32)), .val (.ref wPAYMENT_ERROR), .val (.ref wLOAD), .unset]) rfl ?_
        show Steps p.tables e below (T158.setTop (mkF m 27 #[.val (.int p0), .val (.int p1), .val (.int (4 : Int32)), .val (.int (2 : Int32)), .val (.ref wPAYMENT_ERROR), .val (.ref wLOAD), .unset] [])) _
        refine XS.iloadN X158.here hx rfl (hb hby at_27) rfl ?_
        show Steps p.tables e below (T158.setTop (mkF m 28 #[.val (.int p0), .val (.int p1), .val (.int (4 : Int32)), .val (.int (2 : Int32)), .val (.ref wPAYMENT_ERROR), .val (.ref wLOAD), .unset] [(.int (4 : Int32))])) _
        refine XS.ifYes X158.here hx rfl (pc0 := 28) (pc' := 35) rfl (hb hby at_28) rfl ((if0 _ _).trans (feq ((by decide) : ¬ ((4 : Int32) = (0 : Int32)))).2) (by decide) (by decide) ?_
        show Steps p.tables e below (T158.setTop (mkF m 35 #[.val (.int p0), .val (.int p1), .val (.int (4 : Int32)), .val (.int (2 : Int32)), .val (.ref wPAYMENT_ERROR), .val (.ref wLOAD), .unset] [])) _
        refine XS.iloadN X158.here hx rfl (hb hby at_35) rfl ?_
        show Steps p.tables e below (T158.setTop (mkF m 36 #[.val (.int p0), .val (.int p1), .val (.int (4 : Int32)), .val (.int (2 : Int32)), .val (.ref wPAYMENT_ERROR), .val (.ref wLOAD), .unset] [(.int (4 : Int32))])) _
        refine XS.iconst X158.here hx rfl (hb hby at_36) ?_
        show Steps p.tables e below (T158.setTop (mkF m 37 #[.val (.int p0), .val (.int p1), .val (.int (4 : Int32)), .val (.int (2 : Int32)), .val (.ref wPAYMENT_ERROR), .val (.ref wLOAD), .unset] [(.int (3 : Int32)), (.int (4 : Int32))])) _
        refine XS.icmpYes X158.here hx rfl (pc0 := 37) (pc' := 45) rfl (hb hby at_37) rfl (feq ((by decide) : ¬ ((4 : Int32) = (3 : Int32)))).2 (by decide) (by decide) ?_
        show Steps p.tables e below (T158.setTop (mkF m 45 #[.val (.int p0), .val (.int p1), .val (.int (4 : Int32)), .val (.int (2 : Int32)), .val (.ref wPAYMENT_ERROR), .val (.ref wLOAD), .unset] [])) _
        refine XS.iloadN X158.here hx rfl (hb hby at_45) rfl ?_
        show Steps p.tables e below (T158.setTop (mkF m 46 #[.val (.int p0), .val (.int p1), .val (.int (4 : Int32)), .val (.int (2 : Int32)), .val (.ref wPAYMENT_ERROR), .val (.ref wLOAD), .unset] [(.int (4 : Int32))])) _
        refine XS.iconst X158.here hx rfl (hb hby at_46) ?_
        show Steps p.tables e below (T158.setTop (mkF m 47 #[.val (.int p0), .val (.int p1), .val (.int (4 : Int32)), .val (.int (2 : Int32)), .val (.ref wPAYMENT_ERROR), .val (.ref wLOAD), .unset] [(.int (4 : Int32)), (.int (4 : Int32))])) _
        refine XS.icmpNo X158.here hx rfl (hb hby at_47) rfl (teq (rfl : (4 : Int32) = (4 : Int32))).2 ?_
        show Steps p.tables e below (T158.setTop (mkF m 50 #[.val (.int p0), .val (.int p1), .val (.int (4 : Int32)), .val (.int (2 : Int32)), .val (.ref wPAYMENT_ERROR), .val (.ref wLOAD), .unset] [])) _
        refine XS.iloadN X158.here hx rfl (hb hby at_50) rfl ?_
        show Steps p.tables e below (T158.setTop (mkF m 51 #[.val (.int p0), .val (.int p1), .val (.int (4 : Int32)), .val (.int (2 : Int32)), .val (.ref wPAYMENT_ERROR), .val (.ref wLOAD), .unset] [(.int (2 : Int32))])) _
        refine XS.iconst X158.here hx rfl (hb hby at_51) ?_
        show Steps p.tables e below (T158.setTop (mkF m 52 #[.val (.int p0), .val (.int p1), .val (.int (4 : Int32)), .val (.int (2 : Int32)), .val (.ref wPAYMENT_ERROR), .val (.ref wLOAD), .unset] [(.int (2 : Int32)), (.int (2 : Int32))])) _
        refine XS.icmpNo X158.here hx rfl (hb hby at_52) rfl (teq (rfl : (2 : Int32) = (2 : Int32))).2 ?_
        show Steps p.tables e below (T158.setTop (mkF m 55 #[.val (.int p0), .val (.int p1), .val (.int (4 : Int32)), .val (.int (2 : Int32)), .val (.ref wPAYMENT_ERROR), .val (.ref wLOAD), .unset] [])) _
        refine XS.iconst X158.here hx rfl (hb hby at_55) ?_
        show Steps p.tables e below (T158.setTop (mkF m 56 #[.val (.int p0), .val (.int p1), .val (.int (4 : Int32)), .val (.int (2 : Int32)), .val (.ref wPAYMENT_ERROR), .val (.ref wLOAD), .unset] [(.int (1 : Int32))])) _
        refine XS.goto X158.here hx rfl (pc0 := 56) (pc' := 60) rfl (hb hby at_56) (by decide) (by decide) ?_
        show Steps p.tables e below (T158.setTop (mkF m 60 #[.val (.int p0), .val (.int p1), .val (.int (4 : Int32)), .val (.int (2 : Int32)), .val (.ref wPAYMENT_ERROR), .val (.ref wLOAD), .unset] [(.int (1 : Int32))])) _
        refine XS.istore X158.here hx rfl (hb hby at_60) rfl (l' := #[.val (.int p0), .val (.int p1), .val (.int (4 : Int32)), .val (.int (2 : Int32)), .val (.ref wPAYMENT_ERROR), .val (.ref wLOAD), .val (.int (1 : Int32))]) rfl ?_
        show Steps p.tables e below (T158.setTop (mkF m 62 #[.val (.int p0), .val (.int p1), .val (.int (4 : Int32)), .val (.int (2 : Int32)), .val (.ref wPAYMENT_ERROR), .val (.ref wLOAD), .val (.int (1 : Int32))] [])) _
        refine XS.aload X158.here hx rfl (hb hby at_62) rfl rfl ?_
        show Steps p.tables e below (T158.setTop (mkF m 64 #[.val (.int p0), .val (.int p1), .val (.int (4 : Int32)), .val (.int (2 : Int32)), .val (.ref wPAYMENT_ERROR), .val (.ref wLOAD), .val (.int (1 : Int32))] [(.ref wPAYMENT_ERROR)])) _
        refine XS.aload X158.here hx rfl (hb hby at_64) rfl rfl ?_
        exact kt)
      rw [((by rw [f3, if_pos (rfl : wLOAD = wLOAD)]) : (f3 wPAYMENT_ERROR wLOAD wLOAD wCARD_ERROR wPARTIAL wBALANCE wCREATE wPAYMENT_ERROR wLOAD wNO_TOPUP wORDINARY wBALANCE_ERROR) = (1 : Int32))] at hQ160
      obtain ⟨rfl, N160q, e160⟩ := hQ160
      have N160 := Fr.app N158 N160q
      obtain ⟨fs, hr, hrun, hended, hW, hsame⟩ := X160.leave (v := some (.int (1 : Int32))) (fun h => by rw [Bd.returns] at h; cases h)
      refine ⟨_, _, k161 _ ?_, hrun, hended, _, _, rfl, ?_, ⟨_, rfl⟩, hW, hsame.mono (by decide) (by decide)⟩
      · show Steps p.tables e below (T158.setTop (mkF m 66 #[.val (.int p0), .val (.int p1), .val (.int (4 : Int32)), .val (.int (2 : Int32)), .val (.ref wPAYMENT_ERROR), .val (.ref wLOAD), .val (.int (1 : Int32))] [(.ref wLOAD), (.ref wPAYMENT_ERROR)])) _
        refine st160.trans ?_
        show Steps p.tables e below (T160.setTop (mkF m 69 #[.val (.int p0), .val (.int p1), .val (.int (4 : Int32)), .val (.int (2 : Int32)), .val (.ref wPAYMENT_ERROR), .val (.ref wLOAD), .val (.int (1 : Int32))] [(.int (1 : Int32))])) _
        refine XS.iload X160.here hx rfl (hb hby at_69) rfl ?_
        show Steps p.tables e below (T160.setTop (mkF m 71 #[.val (.int p0), .val (.int p1), .val (.int (4 : Int32)), .val (.int (2 : Int32)), .val (.ref wPAYMENT_ERROR), .val (.ref wLOAD), .val (.int (1 : Int32))] [(.int (1 : Int32)), (.int (1 : Int32))])) _
        refine XS.icmpNo X160.here hx rfl (hb hby at_71) rfl (teq (rfl : (1 : Int32) = (1 : Int32))).2 ?_
        show Steps p.tables e below (T160.setTop (mkF m 74 #[.val (.int p0), .val (.int p1), .val (.int (4 : Int32)), .val (.int (2 : Int32)), .val (.ref wPAYMENT_ERROR), .val (.ref wLOAD), .val (.int (1 : Int32))] [])) _
        refine XS.iconst X160.here hx rfl (hb hby at_74) ?_
        show Steps p.tables e below (T160.setTop (mkF m 75 #[.val (.int p0), .val (.int p1), .val (.int (4 : Int32)), .val (.int (2 : Int32)), .val (.ref wPAYMENT_ERROR), .val (.ref wLOAD), .val (.int (1 : Int32))] [(.int (1 : Int32))])) _
        refine XS.goto X160.here hx rfl (pc0 := 75) (pc' := 79) rfl (hb hby at_75) (by decide) (by decide) ?_
        show Steps p.tables e below (T160.setTop (mkF m 79 #[.val (.int p0), .val (.int p1), .val (.int (4 : Int32)), .val (.int (2 : Int32)), .val (.ref wPAYMENT_ERROR), .val (.ref wLOAD), .val (.int (1 : Int32))] [(.int (1 : Int32))])) _
        exact retN X160 hx (t := .boolean) Bd.returns (by simp) (hb hby at_79) hr
      · show Q0 Z p0 p1 wCARD_ERROR wPARTIAL wBALANCE wCREATE wPAYMENT_ERROR wLOAD wNO_TOPUP wORDINARY wBALANCE_ERROR h0 n0 _ T160.heap _
        rw [e160]
        exact ⟨rfl, N160⟩
    · subst hv143
      obtain ⟨_, _, ⟨T162, L162, k162, n162⟩, -, X162, ⟨Lc162, hQ162, l162, y162, z162⟩, st162⟩ := Jvm.LawKit.callS X0 hx (y := (⟨"com/example/cardstand/cardstand/scenario/CardScenarioFailsPinLaw", "scenario", "(I)Lcom/example/cardstand/cardstand/scenario/CardScenario;"⟩ : MethodName)) hown (mvT hZ (hw _ (List.mem_of_getElem? (i := 1) rfl))) (mvT hZ (hw _ (List.mem_of_getElem? (i := 2) rfl))) (mvT hZ (hw _ (List.mem_of_getElem? (i := 3) rfl))) (mvT hZ (hw _ (List.mem_of_getElem? (i := 4) rfl))) (by decide) (backOf (W := 0) (rm1 l Z a0 hw [] (4 : Int32) wCARD_ERROR wPARTIAL wBALANCE wCREATE wPAYMENT_ERROR wLOAD wNO_TOPUP wORDINARY wBALANCE_ERROR h0 n0 Z0 W0 ) hZ (hw _ (List.mem_of_getElem? (i := 4) rfl)) (hw _ (List.mem_of_getElem? (i := 3) rfl)) (by decide) (by decide)) (g := (mkF m 16 #[.val (.int p0), .val (.int p1), .val (.int (4 : Int32)), .val (.int (3 : Int32)), .unset, .unset, .unset] [(.int (4 : Int32))])) rfl (by rw [hml]; rfl) (argsL := [(.int (4 : Int32))]) (rest := []) (lenOf pd_0 rfl) rfl (by show 2 * 0 + _ ≤ _; exact Nat.le_of_eq rfl) (hb hby at_16) (fun _ _ => ⟨rfl, e0, (by decide : 0 + 0 ≤ _), (by decide : 0 + 0 ≤ _)⟩)
      dsimp only [Pt.U, Pt.locs, Pt.cells, Pt.slots] at X162 l162 y162 z162 st162 hQ162
      subst l162 y162 z162
      unfold Q1 at hQ162
      have k163 : ∀ t, Steps p.tables e below (s₁.setTop (mkF m 16 #[.val (.int p0), .val (.int p1), .val (.int (4 : Int32)), .val (.int (3 : Int32)), .unset, .unset, .unset] [(.int (4 : Int32))])) t → Steps p.tables e below (s₁.setTop (entryFrame m #[(.int p0), (.int p1)] maxLocals)) t := fun t kt => k142 t (by
        show Steps p.tables e below (s₁.setTop (mkF m 15 #[.val (.int p0), .val (.int p1), .val (.int (4 : Int32)), .val (.int (3 : Int32)), .unset, .unset, .unset] [])) _
        refine XS.iloadN X0.here hx rfl (hb hby at_15) rfl ?_
        exact kt)
      rw [((by rw [f1, if_neg ((by decide) : ¬ ((4 : Int32) = (0 : Int32))), if_neg ((by decide) : ¬ ((4 : Int32) = (1 : Int32))), if_neg ((by decide) : ¬ ((4 : Int32) = (2 : Int32))), if_neg ((by decide) : ¬ ((4 : Int32) = (3 : Int32))), if_pos (rfl : (4 : Int32) = (4 : Int32))]) : (f1 (4 : Int32) wCARD_ERROR wPARTIAL wBALANCE wCREATE wPAYMENT_ERROR wLOAD wNO_TOPUP wORDINARY wBALANCE_ERROR) = wPAYMENT_ERROR)] at hQ162
      obtain ⟨rfl, N162q, e162⟩ := hQ162
      have N162 := Fr.app N0 N162q
      obtain ⟨_, _, ⟨T164, L164, k164, n164⟩, -, X164, ⟨Lc164, hQ164, l164, y164, z164⟩, st164⟩ := Jvm.LawKit.callS X162 hx (y := (⟨"com/example/cardstand/cardstand/scenario/CardScenarioFailsPinLaw", "operation", "(I)Lcom/example/cardstand/cardstand/scenario/CardScenario$Operation;"⟩ : MethodName)) hown (mvT hZ (hw _ (List.mem_of_getElem? (i := 8) rfl))) (mvT hZ (hw _ (List.mem_of_getElem? (i := 9) rfl))) (mvT hZ (hw _ (List.mem_of_getElem? (i := 3) rfl))) (mvT hZ (hw _ (List.mem_of_getElem? (i := 10) rfl))) (by decide) (backOf (W := 0) (rm2 l Z a0 hw [] (3 : Int32) wCARD_ERROR wPARTIAL wBALANCE wCREATE wPAYMENT_ERROR wLOAD wNO_TOPUP wORDINARY wBALANCE_ERROR h0 n0 Z0 W0 ) hZ (hw _ (List.mem_of_getElem? (i := 10) rfl)) (hw _ (List.mem_of_getElem? (i := 3) rfl)) (by decide) (by decide)) (g := (mkF m 22 #[.val (.int p0), .val (.int p1), .val (.int (4 : Int32)), .val (.int (3 : Int32)), .val (.ref wPAYMENT_ERROR), .unset, .unset] [(.int (3 : Int32))])) rfl (by rw [hml]; rfl) (argsL := [(.int (3 : Int32))]) (rest := []) (lenOf pd_1 rfl) rfl (by show 2 * 0 + _ ≤ _; exact Nat.le_of_eq rfl) (hb hby at_22) (fun _ _ => ⟨rfl, e162, (by decide : 0 + 0 ≤ _), (by decide : 0 + 0 ≤ _)⟩)
      dsimp only [Pt.U, Pt.locs, Pt.cells, Pt.slots] at X164 l164 y164 z164 st164 hQ164
      subst l164 y164 z164
      unfold Q2 at hQ164
      have k165 : ∀ t, Steps p.tables e below (T162.setTop (mkF m 22 #[.val (.int p0), .val (.int p1), .val (.int (4 : Int32)), .val (.int (3 : Int32)), .val (.ref wPAYMENT_ERROR), .unset, .unset] [(.int (3 : Int32))])) t → Steps p.tables e below (s₁.setTop (entryFrame m #[(.int p0), (.int p1)] maxLocals)) t := fun t kt => k163 t (by
        show Steps p.tables e below (s₁.setTop (mkF m 16 #[.val (.int p0), .val (.int p1), .val (.int (4 : Int32)), .val (.int (3 : Int32)), .unset, .unset, .unset] [(.int (4 : Int32))])) _
        refine st162 _ ?_
        show Steps p.tables e below (T162.setTop (mkF m 19 #[.val (.int p0), .val (.int p1), .val (.int (4 : Int32)), .val (.int (3 : Int32)), .unset, .unset, .unset] [(.ref wPAYMENT_ERROR)])) _
        refine XS.astore X162.here hx rfl (hb hby at_19) rfl rfl (l' := #[.val (.int p0), .val (.int p1), .val (.int (4 : Int32)), .val (.int (3 : Int32)), .val (.ref wPAYMENT_ERROR), .unset, .unset]) rfl ?_
        show Steps p.tables e below (T162.setTop (mkF m 21 #[.val (.int p0), .val (.int p1), .val (.int (4 : Int32)), .val (.int (3 : Int32)), .val (.ref wPAYMENT_ERROR), .unset, .unset] [])) _
        refine XS.iloadN X162.here hx rfl (hb hby at_21) rfl ?_
        exact kt)
      rw [((by rw [f2, if_neg ((by decide) : ¬ ((3 : Int32) = (0 : Int32))), if_neg ((by decide) : ¬ ((3 : Int32) = (1 : Int32))), if_neg ((by decide) : ¬ ((3 : Int32) = (2 : Int32)))]) : (f2 (3 : Int32) wCARD_ERROR wPARTIAL wBALANCE wCREATE wPAYMENT_ERROR wLOAD wNO_TOPUP wORDINARY wBALANCE_ERROR) = .null)] at hQ164
      obtain ⟨rfl, N164q, e164⟩ := hQ164
      have N164 := Fr.app N162 N164q
      obtain ⟨cq166, kq166, q166a, q166b, q166c⟩ := isOf hZ e164 EPAYMENT_ERROR
      obtain ⟨_, _, ⟨T166, L166, k166, n166⟩, -, X166, ⟨Lc166, hQ166, l166, y166, z166⟩, st166⟩ := X164.virtualBack hx (y := (⟨"com/example/cardstand/cardstand/scenario/CardScenario", "fails", "(Lcom/example/cardstand/cardstand/scenario/CardScenario$Operation;)Z"⟩ : MethodName)) (z := (⟨"com/example/cardstand/cardstand/scenario/CardScenario", "fails", "(Lcom/example/cardstand/cardstand/scenario/CardScenario$Operation;)Z"⟩ : MethodName)) hown (mvT hZ (hw _ (List.mem_of_getElem? (i := 11) rfl))) (mvT hZ (hw _ (List.mem_of_getElem? (i := 12) rfl))) (notFace_of_selects (args := #[]) (mvT hZ (hw _ (List.mem_of_getElem? (i := 14) rfl)))) (mvT hZ (hw _ (List.mem_of_getElem? (i := 14) rfl))) (mvT hZ (hw _ (List.mem_of_getElem? (i := 13) rfl))) (by decide) (backOf (W := 0) (rm5 l Z a0 hw [] wPAYMENT_ERROR wCARD_ERROR wPARTIAL wBALANCE wCREATE wPAYMENT_ERROR wLOAD wNO_TOPUP wORDINARY wBALANCE_ERROR h0 n0 Z0 W0 ) hZ (hw _ (List.mem_of_getElem? (i := 15) rfl)) (hw _ (List.mem_of_getElem? (i := 6) rfl)) (by decide) (by decide)) q166a q166c (g := (mkF m 66 #[.val (.int p0), .val (.int p1), .val (.int (4 : Int32)), .val (.int (3 : Int32)), .val (.ref wPAYMENT_ERROR), .val .null, .val (.int (0 : Int32))] [.null, (.ref wPAYMENT_ERROR)])) rfl (by rw [hml]; rfl) (Steps.refl _) (argsL := [.null]) (rest := []) (lenOf pd_2 rfl) rfl (by show 2 * 0 + _ ≤ _; exact Nat.le_of_eq rfl) (hb hby at_66) (fun _ _ => ⟨rfl, e164, (by decide : 0 + 0 ≤ _), (by decide : 0 + 0 ≤ _)⟩)
      dsimp only [Pt.U, Pt.locs, Pt.cells, Pt.slots] at X166 l166 y166 z166 st166 hQ166
      subst l166 y166 z166
      unfold Q5 at hQ166
      have k167 : ∀ t, Steps p.tables e below (T164.setTop (mkF m 66 #[.val (.int p0), .val (.int p1), .val (.int (4 : Int32)), .val (.int (3 : Int32)), .val (.ref wPAYMENT_ERROR), .val .null, .val (.int (0 : Int32))] [.null, (.ref wPAYMENT_ERROR)])) t → Steps p.tables e below (s₁.setTop (entryFrame m #[(.int p0), (.int p1)] maxLocals)) t := fun t kt => k165 t (by
        show Steps p.tables e below (T162.setTop (mkF m 22 #[.val (.int p0), .val (.int p1), .val (.int (4 : Int32)), .val (.int (3 : Int32)), .val (.ref wPAYMENT_ERROR), .unset, .unset] [(.int (3 : Int32))])) _
        refine st164 _ ?_
        show Steps p.tables e below (T164.setTop (mkF m 25 #[.val (.int p0), .val (.int p1), .val (.int (4 : Int32)), .val (.int (3 : Int32)), .val (.ref wPAYMENT_ERROR), .unset, .unset] [.null])) _
        refine XS.astore X164.here hx rfl (hb hby at_25) rfl rfl (l' := #[.val (.int p0), .val (.int p1), .val (.int (4 : Int32)), .val (.int (3 : Int32)), .val (.ref wPAYMENT_ERROR), .val .null, .unset]) rfl ?_
        show Steps p.tables e below (T164.setTop (mkF m 27 #[.val (.int p0), .val (.int p1), .val (.int (4 : Int32)), .val (.int (3 : Int32)), .val (.ref wPAYMENT_ERROR), .val .null, .unset] [])) _
        refine XS.iloadN X164.here hx rfl (hb hby at_27) rfl ?_
        show Steps p.tables e below (T164.setTop (mkF m 28 #[.val (.int p0), .val (.int p1), .val (.int (4 : Int32)), .val (.int (3 : Int32)), .val (.ref wPAYMENT_ERROR), .val .null, .unset] [(.int (4 : Int32))])) _
        refine XS.ifYes X164.here hx rfl (pc0 := 28) (pc' := 35) rfl (hb hby at_28) rfl ((if0 _ _).trans (feq ((by decide) : ¬ ((4 : Int32) = (0 : Int32)))).2) (by decide) (by decide) ?_
        show Steps p.tables e below (T164.setTop (mkF m 35 #[.val (.int p0), .val (.int p1), .val (.int (4 : Int32)), .val (.int (3 : Int32)), .val (.ref wPAYMENT_ERROR), .val .null, .unset] [])) _
        refine XS.iloadN X164.here hx rfl (hb hby at_35) rfl ?_
        show Steps p.tables e below (T164.setTop (mkF m 36 #[.val (.int p0), .val (.int p1), .val (.int (4 : Int32)), .val (.int (3 : Int32)), .val (.ref wPAYMENT_ERROR), .val .null, .unset] [(.int (4 : Int32))])) _
        refine XS.iconst X164.here hx rfl (hb hby at_36) ?_
        show Steps p.tables e below (T164.setTop (mkF m 37 #[.val (.int p0), .val (.int p1), .val (.int (4 : Int32)), .val (.int (3 : Int32)), .val (.ref wPAYMENT_ERROR), .val .null, .unset] [(.int (3 : Int32)), (.int (4 : Int32))])) _
        refine XS.icmpYes X164.here hx rfl (pc0 := 37) (pc' := 45) rfl (hb hby at_37) rfl (feq ((by decide) : ¬ ((4 : Int32) = (3 : Int32)))).2 (by decide) (by decide) ?_
        show Steps p.tables e below (T164.setTop (mkF m 45 #[.val (.int p0), .val (.int p1), .val (.int (4 : Int32)), .val (.int (3 : Int32)), .val (.ref wPAYMENT_ERROR), .val .null, .unset] [])) _
        refine XS.iloadN X164.here hx rfl (hb hby at_45) rfl ?_
        show Steps p.tables e below (T164.setTop (mkF m 46 #[.val (.int p0), .val (.int p1), .val (.int (4 : Int32)), .val (.int (3 : Int32)), .val (.ref wPAYMENT_ERROR), .val .null, .unset] [(.int (4 : Int32))])) _
        refine XS.iconst X164.here hx rfl (hb hby at_46) ?_
        show Steps p.tables e below (T164.setTop (mkF m 47 #[.val (.int p0), .val (.int p1), .val (.int (4 : Int32)), .val (.int (3 : Int32)), .val (.ref wPAYMENT_ERROR), .val .null, .unset] [(.int (4 : Int32)), (.int (4 : Int32))])) _
        refine XS.icmpNo X164.here hx rfl (hb hby at_47) rfl (teq (rfl : (4 : Int32) = (4 : Int32))).2 ?_
        show Steps p.tables e below (T164.setTop (mkF m 50 #[.val (.int p0), .val (.int p1), .val (.int (4 : Int32)), .val (.int (3 : Int32)), .val (.ref wPAYMENT_ERROR), .val .null, .unset] [])) _
        refine XS.iloadN X164.here hx rfl (hb hby at_50) rfl ?_
        show Steps p.tables e below (T164.setTop (mkF m 51 #[.val (.int p0), .val (.int p1), .val (.int (4 : Int32)), .val (.int (3 : Int32)), .val (.ref wPAYMENT_ERROR), .val .null, .unset] [(.int (3 : Int32))])) _
        refine XS.iconst X164.here hx rfl (hb hby at_51) ?_
        show Steps p.tables e below (T164.setTop (mkF m 52 #[.val (.int p0), .val (.int p1), .val (.int (4 : Int32)), .val (.int (3 : Int32)), .val (.ref wPAYMENT_ERROR), .val .null, .unset] [(.int (2 : Int32)), (.int (3 : Int32))])) _
        refine XS.icmpYes X164.here hx rfl (pc0 := 52) (pc' := 59) rfl (hb hby at_52) rfl (feq ((by decide) : ¬ ((3 : Int32) = (2 : Int32)))).2 (by decide) (by decide) ?_
        show Steps p.tables e below (T164.setTop (mkF m 59 #[.val (.int p0), .val (.int p1), .val (.int (4 : Int32)), .val (.int (3 : Int32)), .val (.ref wPAYMENT_ERROR), .val .null, .unset] [])) _
        refine XS.iconst X164.here hx rfl (hb hby at_59) ?_
        show Steps p.tables e below (T164.setTop (mkF m 60 #[.val (.int p0), .val (.int p1), .val (.int (4 : Int32)), .val (.int (3 : Int32)), .val (.ref wPAYMENT_ERROR), .val .null, .unset] [(.int (0 : Int32))])) _
        refine XS.istore X164.here hx rfl (hb hby at_60) rfl (l' := #[.val (.int p0), .val (.int p1), .val (.int (4 : Int32)), .val (.int (3 : Int32)), .val (.ref wPAYMENT_ERROR), .val .null, .val (.int (0 : Int32))]) rfl ?_
        show Steps p.tables e below (T164.setTop (mkF m 62 #[.val (.int p0), .val (.int p1), .val (.int (4 : Int32)), .val (.int (3 : Int32)), .val (.ref wPAYMENT_ERROR), .val .null, .val (.int (0 : Int32))] [])) _
        refine XS.aload X164.here hx rfl (hb hby at_62) rfl rfl ?_
        show Steps p.tables e below (T164.setTop (mkF m 64 #[.val (.int p0), .val (.int p1), .val (.int (4 : Int32)), .val (.int (3 : Int32)), .val (.ref wPAYMENT_ERROR), .val .null, .val (.int (0 : Int32))] [(.ref wPAYMENT_ERROR)])) _
        refine XS.aload X164.here hx rfl (hb hby at_64) rfl rfl ?_
        exact kt)
      rw [((by rw [f5]) : (f5 wPAYMENT_ERROR wCARD_ERROR wPARTIAL wBALANCE wCREATE wPAYMENT_ERROR wLOAD wNO_TOPUP wORDINARY wBALANCE_ERROR) = (0 : Int32))] at hQ166
      obtain ⟨rfl, N166q, e166⟩ := hQ166
      have N166 := Fr.app N164 N166q
      obtain ⟨fs, hr, hrun, hended, hW, hsame⟩ := X166.leave (v := some (.int (1 : Int32))) (fun h => by rw [Bd.returns] at h; cases h)
      refine ⟨_, _, k167 _ ?_, hrun, hended, _, _, rfl, ?_, ⟨_, rfl⟩, hW, hsame.mono (by decide) (by decide)⟩
      · show Steps p.tables e below (T164.setTop (mkF m 66 #[.val (.int p0), .val (.int p1), .val (.int (4 : Int32)), .val (.int (3 : Int32)), .val (.ref wPAYMENT_ERROR), .val .null, .val (.int (0 : Int32))] [.null, (.ref wPAYMENT_ERROR)])) _
        refine st166.trans ?_
        show Steps p.tables e below (T166.setTop (mkF m 69 #[.val (.int p0), .val (.int p1), .val (.int (4 : Int32)), .val (.int (3 : Int32)), .val (.ref wPAYMENT_ERROR), .val .null, .val (.int (0 : Int32))] [(.int (0 : Int32))])) _
        refine XS.iload X166.here hx rfl (hb hby at_69) rfl ?_
        show Steps p.tables e below (T166.setTop (mkF m 71 #[.val (.int p0), .val (.int p1), .val (.int (4 : Int32)), .val (.int (3 : Int32)), .val (.ref wPAYMENT_ERROR), .val .null, .val (.int (0 : Int32))] [(.int (0 : Int32)), (.int (0 : Int32))])) _
        refine XS.icmpNo X166.here hx rfl (hb hby at_71) rfl (teq (rfl : (0 : Int32) = (0 : Int32))).2 ?_
        show Steps p.tables e below (T166.setTop (mkF m 74 #[.val (.int p0), .val (.int p1), .val (.int (4 : Int32)), .val (.int (3 : Int32)), .val (.ref wPAYMENT_ERROR), .val .null, .val (.int (0 : Int32))] [])) _
        refine XS.iconst X166.here hx rfl (hb hby at_74) ?_
        show Steps p.tables e below (T166.setTop (mkF m 75 #[.val (.int p0), .val (.int p1), .val (.int (4 : Int32)), .val (.int (3 : Int32)), .val (.ref wPAYMENT_ERROR), .val .null, .val (.int (0 : Int32))] [(.int (1 : Int32))])) _
        refine XS.goto X166.here hx rfl (pc0 := 75) (pc' := 79) rfl (hb hby at_75) (by decide) (by decide) ?_
        show Steps p.tables e below (T166.setTop (mkF m 79 #[.val (.int p0), .val (.int p1), .val (.int (4 : Int32)), .val (.int (3 : Int32)), .val (.ref wPAYMENT_ERROR), .val .null, .val (.int (0 : Int32))] [(.int (1 : Int32))])) _
        exact retN X166 hx (t := .boolean) Bd.returns (by simp) (hb hby at_79) hr
      · show Q0 Z p0 p1 wCARD_ERROR wPARTIAL wBALANCE wCREATE wPAYMENT_ERROR wLOAD wNO_TOPUP wORDINARY wBALANCE_ERROR h0 n0 _ T166.heap _
        rw [e166]
        exact ⟨rfl, N166⟩
  · subst hv32
    obtain ⟨i168, hi168⟩ : ∃ z, z = ((p1 &&& (2147483647 : Int32)) % (4 : Int32)) := ⟨_, rfl⟩
    have k169 : ∀ t, Steps p.tables e below (s₁.setTop (mkF m 15 #[.val (.int p0), .val (.int p1), .val (.int (5 : Int32)), .val (.int i168), .unset, .unset, .unset] [])) t → Steps p.tables e below (s₁.setTop (entryFrame m #[(.int p0), (.int p1)] maxLocals)) t := fun t kt => k31 t (by
      show Steps p.tables e below (s₁.setTop (mkF m 8 #[.val (.int p0), .val (.int p1), .val (.int (5 : Int32)), .unset, .unset, .unset, .unset] [])) _
      refine XS.iloadN X0.here hx rfl (hb hby at_8) rfl ?_
      show Steps p.tables e below (s₁.setTop (mkF m 9 #[.val (.int p0), .val (.int p1), .val (.int (5 : Int32)), .unset, .unset, .unset, .unset] [(.int p1)])) _
      refine X0.ldcInt hx hown (mvT hZ (hw _ (List.mem_of_getElem? (i := 0) rfl))) (g := (mkF m 9 #[.val (.int p0), .val (.int p1), .val (.int (5 : Int32)), .unset, .unset, .unset, .unset] [(.int p1)])) rfl (hb hby at_9) _ ?_
      show Steps p.tables e below (s₁.setTop (mkF m 11 #[.val (.int p0), .val (.int p1), .val (.int (5 : Int32)), .unset, .unset, .unset, .unset] [(.int (2147483647 : Int32)), (.int p1)])) _
      refine XS.iand X0.here hx rfl (hb hby at_11) rfl ?_
      show Steps p.tables e below (s₁.setTop (mkF m 12 #[.val (.int p0), .val (.int p1), .val (.int (5 : Int32)), .unset, .unset, .unset, .unset] [(.int (p1 &&& (2147483647 : Int32)))])) _
      refine XS.iconst X0.here hx rfl (hb hby at_12) ?_
      show Steps p.tables e below (s₁.setTop (mkF m 13 #[.val (.int p0), .val (.int p1), .val (.int (5 : Int32)), .unset, .unset, .unset, .unset] [(.int (4 : Int32)), (.int (p1 &&& (2147483647 : Int32)))])) _
      refine iremM X0 hx rfl (hb hby at_13) rfl (by decide) ?_
      rw [← hi168]
      show Steps p.tables e below (s₁.setTop (mkF m 14 #[.val (.int p0), .val (.int p1), .val (.int (5 : Int32)), .unset, .unset, .unset, .unset] [(.int i168)])) _
      refine XS.istoreN X0.here hx rfl (hb hby at_14) rfl (l' := #[.val (.int p0), .val (.int p1), .val (.int (5 : Int32)), .val (.int i168), .unset, .unset, .unset]) rfl ?_
      exact kt)
    rcases own_cases4 hi168 with hv170 | hv170 | hv170 | hv170
    · subst hv170
      obtain ⟨_, _, ⟨T171, L171, k171, n171⟩, -, X171, ⟨Lc171, hQ171, l171, y171, z171⟩, st171⟩ := Jvm.LawKit.callS X0 hx (y := (⟨"com/example/cardstand/cardstand/scenario/CardScenarioFailsPinLaw", "scenario", "(I)Lcom/example/cardstand/cardstand/scenario/CardScenario;"⟩ : MethodName)) hown (mvT hZ (hw _ (List.mem_of_getElem? (i := 1) rfl))) (mvT hZ (hw _ (List.mem_of_getElem? (i := 2) rfl))) (mvT hZ (hw _ (List.mem_of_getElem? (i := 3) rfl))) (mvT hZ (hw _ (List.mem_of_getElem? (i := 4) rfl))) (by decide) (backOf (W := 0) (rm1 l Z a0 hw [] (5 : Int32) wCARD_ERROR wPARTIAL wBALANCE wCREATE wPAYMENT_ERROR wLOAD wNO_TOPUP wORDINARY wBALANCE_ERROR h0 n0 Z0 W0 ) hZ (hw _ (List.mem_of_getElem? (i := 4) rfl)) (hw _ (List.mem_of_getElem? (i := 3) rfl)) (by decide) (by decide)) (g := (mkF m 16 #[.val (.int p0), .val (.int p1), .val (.int (5 : Int32)), .val (.int (0 : Int32)), .unset, .unset, .unset] [(.int (5 : Int32))])) rfl (by rw [hml]; rfl) (argsL := [(.int (5 : Int32))]) (rest := []) (lenOf pd_0 rfl) rfl (by show 2 * 0 + _ ≤ _; exact Nat.le_of_eq rfl) (hb hby at_16) (fun _ _ => ⟨rfl, e0, (by decide : 0 + 0 ≤ _), (by decide : 0 + 0 ≤ _)⟩)
      dsimp only [Pt.U, Pt.locs, Pt.cells, Pt.slots] at X171 l171 y171 z171 st171 hQ171
      subst l171 y171 z171
      unfold Q1 at hQ171
      have k172 : ∀ t, Steps p.tables e below (s₁.setTop (mkF m 16 #[.val (.int p0), .val (.int p1), .val (.int (5 : Int32)), .val (.int (0 : Int32)), .unset, .unset, .unset] [(.int (5 : Int32))])) t → Steps p.tables e below (s₁.setTop (entryFrame m #[(.int p0), (.int p1)] maxLocals)) t := fun t kt => k169 t (by
        show Steps p.tables e below (s₁.setTop (mkF m 15 #[.val (.int p0), .val (.int p1), .val (.int (5 : Int32)), .val (.int (0 : Int32)), .unset, .unset, .unset] [])) _
        refine XS.iloadN X0.here hx rfl (hb hby at_15) rfl ?_
        exact kt)
      rw [((by rw [f1, if_neg ((by decide) : ¬ ((5 : Int32) = (0 : Int32))), if_neg ((by decide) : ¬ ((5 : Int32) = (1 : Int32))), if_neg ((by decide) : ¬ ((5 : Int32) = (2 : Int32))), if_neg ((by decide) : ¬ ((5 : Int32) = (3 : Int32))), if_neg ((by decide) : ¬ ((5 : Int32) = (4 : Int32)))]) : (f1 (5 : Int32) wCARD_ERROR wPARTIAL wBALANCE wCREATE wPAYMENT_ERROR wLOAD wNO_TOPUP wORDINARY wBALANCE_ERROR) = wORDINARY)] at hQ171
      obtain ⟨rfl, N171q, e171⟩ := hQ171
      have N171 := Fr.app N0 N171q
      obtain ⟨_, _, ⟨T173, L173, k173, n173⟩, -, X173, ⟨Lc173, hQ173, l173, y173, z173⟩, st173⟩ := Jvm.LawKit.callS X171 hx (y := (⟨"com/example/cardstand/cardstand/scenario/CardScenarioFailsPinLaw", "operation", "(I)Lcom/example/cardstand/cardstand/scenario/CardScenario$Operation;"⟩ : MethodName)) hown (mvT hZ (hw _ (List.mem_of_getElem? (i := 8) rfl))) (mvT hZ (hw _ (List.mem_of_getElem? (i := 9) rfl))) (mvT hZ (hw _ (List.mem_of_getElem? (i := 3) rfl))) (mvT hZ (hw _ (List.mem_of_getElem? (i := 10) rfl))) (by decide) (backOf (W := 0) (rm2 l Z a0 hw [] (0 : Int32) wCARD_ERROR wPARTIAL wBALANCE wCREATE wPAYMENT_ERROR wLOAD wNO_TOPUP wORDINARY wBALANCE_ERROR h0 n0 Z0 W0 ) hZ (hw _ (List.mem_of_getElem? (i := 10) rfl)) (hw _ (List.mem_of_getElem? (i := 3) rfl)) (by decide) (by decide)) (g := (mkF m 22 #[.val (.int p0), .val (.int p1), .val (.int (5 : Int32)), .val (.int (0 : Int32)), .val (.ref wORDINARY), .unset, .unset] [(.int (0 : Int32))])) rfl (by rw [hml]; rfl) (argsL := [(.int (0 : Int32))]) (rest := []) (lenOf pd_1 rfl) rfl (by show 2 * 0 + _ ≤ _; exact Nat.le_of_eq rfl) (hb hby at_22) (fun _ _ => ⟨rfl, e171, (by decide : 0 + 0 ≤ _), (by decide : 0 + 0 ≤ _)⟩)
      dsimp only [Pt.U, Pt.locs, Pt.cells, Pt.slots] at X173 l173 y173 z173 st173 hQ173
      subst l173 y173 z173
      unfold Q2 at hQ173
      have k174 : ∀ t, Steps p.tables e below (T171.setTop (mkF m 22 #[.val (.int p0), .val (.int p1), .val (.int (5 : Int32)), .val (.int (0 : Int32)), .val (.ref wORDINARY), .unset, .unset] [(.int (0 : Int32))])) t → Steps p.tables e below (s₁.setTop (entryFrame m #[(.int p0), (.int p1)] maxLocals)) t := fun t kt => k172 t (by
        show Steps p.tables e below (s₁.setTop (mkF m 16 #[.val (.int p0), .val (.int p1), .val (.int (5 : Int32)), .val (.int (0 : Int32)), .unset, .unset, .unset] [(.int (5 : Int32))])) _
        refine st171 _ ?_
        show Steps p.tables e below (T171.setTop (mkF m 19 #[.val (.int p0), .val (.int p1), .val (.int (5 : Int32)), .val (.int (0 : Int32)), .unset, .unset, .unset] [(.ref wORDINARY)])) _
        refine XS.astore X171.here hx rfl (hb hby at_19) rfl rfl (l' := #[.val (.int p0), .val (.int p1), .val (.int (5 : Int32)), .val (.int (0 : Int32)), .val (.ref wORDINARY), .unset, .unset]) rfl ?_
        show Steps p.tables e below (T171.setTop (mkF m 21 #[.val (.int p0), .val (.int p1), .val (.int (5 : Int32)), .val (.int (0 : Int32)), .val (.ref wORDINARY), .unset, .unset] [])) _
        refine XS.iloadN X171.here hx rfl (hb hby at_21) rfl ?_
        exact kt)
      rw [((by rw [f2, if_pos (rfl : (0 : Int32) = (0 : Int32))]) : (f2 (0 : Int32) wCARD_ERROR wPARTIAL wBALANCE wCREATE wPAYMENT_ERROR wLOAD wNO_TOPUP wORDINARY wBALANCE_ERROR) = (.ref wCREATE))] at hQ173
      obtain ⟨rfl, N173q, e173⟩ := hQ173
      have N173 := Fr.app N171 N173q
      obtain ⟨cq175, kq175, q175a, q175b, q175c⟩ := isOf hZ e173 EORDINARY
      obtain ⟨_, _, ⟨T175, L175, k175, n175⟩, -, X175, ⟨Lc175, hQ175, l175, y175, z175⟩, st175⟩ := X173.virtualBack hx (y := (⟨"com/example/cardstand/cardstand/scenario/CardScenario", "fails", "(Lcom/example/cardstand/cardstand/scenario/CardScenario$Operation;)Z"⟩ : MethodName)) (z := (⟨"com/example/cardstand/cardstand/scenario/CardScenario", "fails", "(Lcom/example/cardstand/cardstand/scenario/CardScenario$Operation;)Z"⟩ : MethodName)) hown (mvT hZ (hw _ (List.mem_of_getElem? (i := 11) rfl))) (mvT hZ (hw _ (List.mem_of_getElem? (i := 12) rfl))) (notFace_of_selects (args := #[]) (mvT hZ (hw _ (List.mem_of_getElem? (i := 14) rfl)))) (mvT hZ (hw _ (List.mem_of_getElem? (i := 14) rfl))) (mvT hZ (hw _ (List.mem_of_getElem? (i := 13) rfl))) (by decide) (backOf (W := 0) (rm4 l Z a0 hw [] wORDINARY wCREATE wCARD_ERROR wPARTIAL wBALANCE wCREATE wPAYMENT_ERROR wLOAD wNO_TOPUP wORDINARY wBALANCE_ERROR h0 n0 Z0 W0 FORDINARY_failing) hZ (hw _ (List.mem_of_getElem? (i := 15) rfl)) (hw _ (List.mem_of_getElem? (i := 6) rfl)) (by decide) (by decide)) q175a q175c (g := (mkF m 66 #[.val (.int p0), .val (.int p1), .val (.int (5 : Int32)), .val (.int (0 : Int32)), .val (.ref wORDINARY), .val (.ref wCREATE), .val (.int (0 : Int32))] [(.ref wCREATE), (.ref wORDINARY)])) rfl (by rw [hml]; rfl) (Steps.refl _) (argsL := [(.ref wCREATE)]) (rest := []) (lenOf pd_2 rfl) rfl (by show 2 * 0 + _ ≤ _; exact Nat.le_of_eq rfl) (hb hby at_66) (fun _ _ => ⟨rfl, e173, (by decide : 0 + 0 ≤ _), (by decide : 0 + 0 ≤ _)⟩)
      dsimp only [Pt.U, Pt.locs, Pt.cells, Pt.slots] at X175 l175 y175 z175 st175 hQ175
      subst l175 y175 z175
      unfold Q4 at hQ175
      have k176 : ∀ t, Steps p.tables e below (T173.setTop (mkF m 66 #[.val (.int p0), .val (.int p1), .val (.int (5 : Int32)), .val (.int (0 : Int32)), .val (.ref wORDINARY), .val (.ref wCREATE), .val (.int (0 : Int32))] [(.ref wCREATE), (.ref wORDINARY)])) t → Steps p.tables e below (s₁.setTop (entryFrame m #[(.int p0), (.int p1)] maxLocals)) t := fun t kt => k174 t (by
        show Steps p.tables e below (T171.setTop (mkF m 22 #[.val (.int p0), .val (.int p1), .val (.int (5 : Int32)), .val (.int (0 : Int32)), .val (.ref wORDINARY), .unset, .unset] [(.int (0 : Int32))])) _
        refine st173 _ ?_
        show Steps p.tables e below (T173.setTop (mkF m 25 #[.val (.int p0), .val (.int p1), .val (.int (5 : Int32)), .val (.int (0 : Int32)), .val (.ref wORDINARY), .unset, .unset] [(.ref wCREATE)])) _
        refine XS.astore X173.here hx rfl (hb hby at_25) rfl rfl (l' := #[.val (.int p0), .val (.int p1), .val (.int (5 : Int32)), .val (.int (0 : Int32)), .val (.ref wORDINARY), .val (.ref wCREATE), .unset]) rfl ?_
        show Steps p.tables e below (T173.setTop (mkF m 27 #[.val (.int p0), .val (.int p1), .val (.int (5 : Int32)), .val (.int (0 : Int32)), .val (.ref wORDINARY), .val (.ref wCREATE), .unset] [])) _
        refine XS.iloadN X173.here hx rfl (hb hby at_27) rfl ?_
        show Steps p.tables e below (T173.setTop (mkF m 28 #[.val (.int p0), .val (.int p1), .val (.int (5 : Int32)), .val (.int (0 : Int32)), .val (.ref wORDINARY), .val (.ref wCREATE), .unset] [(.int (5 : Int32))])) _
        refine XS.ifYes X173.here hx rfl (pc0 := 28) (pc' := 35) rfl (hb hby at_28) rfl ((if0 _ _).trans (feq ((by decide) : ¬ ((5 : Int32) = (0 : Int32)))).2) (by decide) (by decide) ?_
        show Steps p.tables e below (T173.setTop (mkF m 35 #[.val (.int p0), .val (.int p1), .val (.int (5 : Int32)), .val (.int (0 : Int32)), .val (.ref wORDINARY), .val (.ref wCREATE), .unset] [])) _
        refine XS.iloadN X173.here hx rfl (hb hby at_35) rfl ?_
        show Steps p.tables e below (T173.setTop (mkF m 36 #[.val (.int p0), .val (.int p1), .val (.int (5 : Int32)), .val (.int (0 : Int32)), .val (.ref wORDINARY), .val (.ref wCREATE), .unset] [(.int (5 : Int32))])) _
        refine XS.iconst X173.here hx rfl (hb hby at_36) ?_
        show Steps p.tables e below (T173.setTop (mkF m 37 #[.val (.int p0), .val (.int p1), .val (.int (5 : Int32)), .val (.int (0 : Int32)), .val (.ref wORDINARY), .val (.ref wCREATE), .unset] [(.int (3 : Int32)), (.int (5 : Int32))])) _
        refine XS.icmpYes X173.here hx rfl (pc0 := 37) (pc' := 45) rfl (hb hby at_37) rfl (feq ((by decide) : ¬ ((5 : Int32) = (3 : Int32)))).2 (by decide) (by decide) ?_
        show Steps p.tables e below (T173.setTop (mkF m 45 #[.val (.int p0), .val (.int p1), .val (.int (5 : Int32)), .val (.int (0 : Int32)), .val (.ref wORDINARY), .val (.ref wCREATE), .unset] [])) _
        refine XS.iloadN X173.here hx rfl (hb hby at_45) rfl ?_
        show Steps p.tables e below (T173.setTop (mkF m 46 #[.val (.int p0), .val (.int p1), .val (.int (5 : Int32)), .val (.int (0 : Int32)), .val (.ref wORDINARY), .val (.ref wCREATE), .unset] [(.int (5 : Int32))])) _
        refine XS.iconst X173.here hx rfl (hb hby at_46) ?_
        show Steps p.tables e below (T173.setTop (mkF m 47 #[.val (.int p0), .val (.int p1), .val (.int (5 : Int32)), .val (.int (0 : Int32)), .val (.ref wORDINARY), .val (.ref wCREATE), .unset] [(.int (4 : Int32)), (.int (5 : Int32))])) _
        refine XS.icmpYes X173.here hx rfl (pc0 := 47) (pc' := 59) rfl (hb hby at_47) rfl (feq ((by decide) : ¬ ((5 : Int32) = (4 : Int32)))).2 (by decide) (by decide) ?_
        show Steps p.tables e below (T173.setTop (mkF m 59 #[.val (.int p0), .val (.int p1), .val (.int (5 : Int32)), .val (.int (0 : Int32)), .val (.ref wORDINARY), .val (.ref wCREATE), .unset] [])) _
        refine XS.iconst X173.here hx rfl (hb hby at_59) ?_
        show Steps p.tables e below (T173.setTop (mkF m 60 #[.val (.int p0), .val (.int p1), .val (.int (5 : Int32)), .val (.int (0 : Int32)), .val (.ref wORDINARY), .val (.ref wCREATE), .unset] [(.int (0 : Int32))])) _
        refine XS.istore X173.here hx rfl (hb hby at_60) rfl (l' := #[.val (.int p0), .val (.int p1), .val (.int (5 : Int32)), .val (.int (0 : Int32)), .val (.ref wORDINARY), .val (.ref wCREATE), .val (.int (0 : Int32))]) rfl ?_
        show Steps p.tables e below (T173.setTop (mkF m 62 #[.val (.int p0), .val (.int p1), .val (.int (5 : Int32)), .val (.int (0 : Int32)), .val (.ref wORDINARY), .val (.ref wCREATE), .val (.int (0 : Int32))] [])) _
        refine XS.aload X173.here hx rfl (hb hby at_62) rfl rfl ?_
        show Steps p.tables e below (T173.setTop (mkF m 64 #[.val (.int p0), .val (.int p1), .val (.int (5 : Int32)), .val (.int (0 : Int32)), .val (.ref wORDINARY), .val (.ref wCREATE), .val (.int (0 : Int32))] [(.ref wORDINARY)])) _
        refine XS.aload X173.here hx rfl (hb hby at_64) rfl rfl ?_
        exact kt)
      rw [((by rw [f4]) : (f4 wORDINARY wCREATE wCARD_ERROR wPARTIAL wBALANCE wCREATE wPAYMENT_ERROR wLOAD wNO_TOPUP wORDINARY wBALANCE_ERROR) = (0 : Int32))] at hQ175
      obtain ⟨rfl, N175q, e175⟩ := hQ175
      have N175 := Fr.app N173 N175q
      obtain ⟨fs, hr, hrun, hended, hW, hsame⟩ := X175.leave (v := some (.int (1 : Int32))) (fun h => by rw [Bd.returns] at h; cases h)
      refine ⟨_, _, k176 _ ?_, hrun, hended, _, _, rfl, ?_, ⟨_, rfl⟩, hW, hsame.mono (by decide) (by decide)⟩
      · show Steps p.tables e below (T173.setTop (mkF m 66 #[.val (.int p0), .val (.int p1), .val (.int (5 : Int32)), .val (.int (0 : Int32)), .val (.ref wORDINARY), .val (.ref wCREATE), .val (.int (0 : Int32))] [(.ref wCREATE), (.ref wORDINARY)])) _
        refine st175.trans ?_
        show Steps p.tables e below (T175.setTop (mkF m 69 #[.val (.int p0), .val (.int p1), .val (.int (5 : Int32)), .val (.int (0 : Int32)), .val (.ref wORDINARY), .val (.ref wCREATE), .val (.int (0 : Int32))] [(.int (0 : Int32))])) _
        refine XS.iload X175.here hx rfl (hb hby at_69) rfl ?_
        show Steps p.tables e below (T175.setTop (mkF m 71 #[.val (.int p0), .val (.int p1), .val (.int (5 : Int32)), .val (.int (0 : Int32)), .val (.ref wORDINARY), .val (.ref wCREATE), .val (.int (0 : Int32))] [(.int (0 : Int32)), (.int (0 : Int32))])) _
        refine XS.icmpNo X175.here hx rfl (hb hby at_71) rfl (teq (rfl : (0 : Int32) = (0 : Int32))).2 ?_
        show Steps p.tables e below (T175.setTop (mkF m 74 #[.val (.int p0), .val (.int p1), .val (.int (5 : Int32)), .val (.int (0 : Int32)), .val (.ref wORDINARY), .val (.ref wCREATE), .val (.int (0 : Int32))] [])) _
        refine XS.iconst X175.here hx rfl (hb hby at_74) ?_
        show Steps p.tables e below (T175.setTop (mkF m 75 #[.val (.int p0), .val (.int p1), .val (.int (5 : Int32)), .val (.int (0 : Int32)), .val (.ref wORDINARY), .val (.ref wCREATE), .val (.int (0 : Int32))] [(.int (1 : Int32))])) _
        refine XS.goto X175.here hx rfl (pc0 := 75) (pc' := 79) rfl (hb hby at_75) (by decide) (by decide) ?_
        show Steps p.tables e below (T175.setTop (mkF m 79 #[.val (.int p0), .val (.int p1), .val (.int (5 : Int32)), .val (.int (0 : Int32)), .val (.ref wORDINARY), .val (.ref wCREATE), .val (.int (0 : Int32))] [(.int (1 : Int32))])) _
        exact retN X175 hx (t := .boolean) Bd.returns (by simp) (hb hby at_79) hr
      · show Q0 Z p0 p1 wCARD_ERROR wPARTIAL wBALANCE wCREATE wPAYMENT_ERROR wLOAD wNO_TOPUP wORDINARY wBALANCE_ERROR h0 n0 _ T175.heap _
        rw [e175]
        exact ⟨rfl, N175⟩
    · subst hv170
      obtain ⟨_, _, ⟨T177, L177, k177, n177⟩, -, X177, ⟨Lc177, hQ177, l177, y177, z177⟩, st177⟩ := Jvm.LawKit.callS X0 hx (y := (⟨"com/example/cardstand/cardstand/scenario/CardScenarioFailsPinLaw", "scenario", "(I)Lcom/example/cardstand/cardstand/scenario/CardScenario;"⟩ : MethodName)) hown (mvT hZ (hw _ (List.mem_of_getElem? (i := 1) rfl))) (mvT hZ (hw _ (List.mem_of_getElem? (i := 2) rfl))) (mvT hZ (hw _ (List.mem_of_getElem? (i := 3) rfl))) (mvT hZ (hw _ (List.mem_of_getElem? (i := 4) rfl))) (by decide) (backOf (W := 0) (rm1 l Z a0 hw [] (5 : Int32) wCARD_ERROR wPARTIAL wBALANCE wCREATE wPAYMENT_ERROR wLOAD wNO_TOPUP wORDINARY wBALANCE_ERROR h0 n0 Z0 W0 ) hZ (hw _ (List.mem_of_getElem? (i := 4) rfl)) (hw _ (List.mem_of_getElem? (i := 3) rfl)) (by decide) (by decide)) (g := (mkF m 16 #[.val (.int p0), .val (.int p1), .val (.int (5 : Int32)), .val (.int (1 : Int32)), .unset, .unset, .unset] [(.int (5 : Int32))])) rfl (by rw [hml]; rfl) (argsL := [(.int (5 : Int32))]) (rest := []) (lenOf pd_0 rfl) rfl (by show 2 * 0 + _ ≤ _; exact Nat.le_of_eq rfl) (hb hby at_16) (fun _ _ => ⟨rfl, e0, (by decide : 0 + 0 ≤ _), (by decide : 0 + 0 ≤ _)⟩)
      dsimp only [Pt.U, Pt.locs, Pt.cells, Pt.slots] at X177 l177 y177 z177 st177 hQ177
      subst l177 y177 z177
      unfold Q1 at hQ177
      have k178 : ∀ t, Steps p.tables e below (s₁.setTop (mkF m 16 #[.val (.int p0), .val (.int p1), .val (.int (5 : Int32)), .val (.int (1 : Int32)), .unset, .unset, .unset] [(.int (5 : Int32))])) t → Steps p.tables e below (s₁.setTop (entryFrame m #[(.int p0), (.int p1)] maxLocals)) t := fun t kt => k169 t (by
        show Steps p.tables e below (s₁.setTop (mkF m 15 #[.val (.int p0), .val (.int p1), .val (.int (5 : Int32)), .val (.int (1 : Int32)), .unset, .unset, .unset] [])) _
        refine XS.iloadN X0.here hx rfl (hb hby at_15) rfl ?_
        exact kt)
      rw [((by rw [f1, if_neg ((by decide) : ¬ ((5 : Int32) = (0 : Int32))), if_neg ((by decide) : ¬ ((5 : Int32) = (1 : Int32))), if_neg ((by decide) : ¬ ((5 : Int32) = (2 : Int32))), if_neg ((by decide) : ¬ ((5 : Int32) = (3 : Int32))), if_neg ((by decide) : ¬ ((5 : Int32) = (4 : Int32)))]) : (f1 (5 : Int32) wCARD_ERROR wPARTIAL wBALANCE wCREATE wPAYMENT_ERROR wLOAD wNO_TOPUP wORDINARY wBALANCE_ERROR) = wORDINARY)] at hQ177
      obtain ⟨rfl, N177q, e177⟩ := hQ177
      have N177 := Fr.app N0 N177q
      obtain ⟨_, _, ⟨T179, L179, k179, n179⟩, -, X179, ⟨Lc179, hQ179, l179, y179, z179⟩, st179⟩ := Jvm.LawKit.callS X177 hx (y := (⟨"com/example/cardstand/cardstand/scenario/CardScenarioFailsPinLaw", "operation", "(I)Lcom/example/cardstand/cardstand/scenario/CardScenario$Operation;"⟩ : MethodName)) hown (mvT hZ (hw _ (List.mem_of_getElem? (i := 8) rfl))) (mvT hZ (hw _ (List.mem_of_getElem? (i := 9) rfl))) (mvT hZ (hw _ (List.mem_of_getElem? (i := 3) rfl))) (mvT hZ (hw _ (List.mem_of_getElem? (i := 10) rfl))) (by decide) (backOf (W := 0) (rm2 l Z a0 hw [] (1 : Int32) wCARD_ERROR wPARTIAL wBALANCE wCREATE wPAYMENT_ERROR wLOAD wNO_TOPUP wORDINARY wBALANCE_ERROR h0 n0 Z0 W0 ) hZ (hw _ (List.mem_of_getElem? (i := 10) rfl)) (hw _ (List.mem_of_getElem? (i := 3) rfl)) (by decide) (by decide)) (g := (mkF m 22 #[.val (.int p0), .val (.int p1), .val (.int (5 : Int32)), .val (.int (1 : Int32)), .val (.ref wORDINARY), .unset, .unset] [(.int (1 : Int32))])) rfl (by rw [hml]; rfl) (argsL := [(.int (1 : Int32))]) (rest := []) (lenOf pd_1 rfl) rfl (by show 2 * 0 + _ ≤ _; exact Nat.le_of_eq rfl) (hb hby at_22) (fun _ _ => ⟨rfl, e177, (by decide : 0 + 0 ≤ _), (by decide : 0 + 0 ≤ _)⟩)
      dsimp only [Pt.U, Pt.locs, Pt.cells, Pt.slots] at X179 l179 y179 z179 st179 hQ179
      subst l179 y179 z179
      unfold Q2 at hQ179
      have k180 : ∀ t, Steps p.tables e below (T177.setTop (mkF m 22 #[.val (.int p0), .val (.int p1), .val (.int (5 : Int32)), .val (.int (1 : Int32)), .val (.ref wORDINARY), .unset, .unset] [(.int (1 : Int32))])) t → Steps p.tables e below (s₁.setTop (entryFrame m #[(.int p0), (.int p1)] maxLocals)) t := fun t kt => k178 t (by
        show Steps p.tables e below (s₁.setTop (mkF m 16 #[.val (.int p0), .val (.int p1), .val (.int (5 : Int32)), .val (.int (1 : Int32)), .unset, .unset, .unset] [(.int (5 : Int32))])) _
        refine st177 _ ?_
        show Steps p.tables e below (T177.setTop (mkF m 19 #[.val (.int p0), .val (.int p1), .val (.int (5 : Int32)), .val (.int (1 : Int32)), .unset, .unset, .unset] [(.ref wORDINARY)])) _
        refine XS.astore X177.here hx rfl (hb hby at_19) rfl rfl (l' := #[.val (.int p0), .val (.int p1), .val (.int (5 : Int32)), .val (.int (1 : Int32)), .val (.ref wORDINARY), .unset, .unset]) rfl ?_
        show Steps p.tables e below (T177.setTop (mkF m 21 #[.val (.int p0), .val (.int p1), .val (.int (5 : Int32)), .val (.int (1 : Int32)), .val (.ref wORDINARY), .unset, .unset] [])) _
        refine XS.iloadN X177.here hx rfl (hb hby at_21) rfl ?_
        exact kt)
      rw [((by rw [f2, if_neg ((by decide) : ¬ ((1 : Int32) = (0 : Int32))), if_pos (rfl : (1 : Int32) = (1 : Int32))]) : (f2 (1 : Int32) wCARD_ERROR wPARTIAL wBALANCE wCREATE wPAYMENT_ERROR wLOAD wNO_TOPUP wORDINARY wBALANCE_ERROR) = (.ref wBALANCE))] at hQ179
      obtain ⟨rfl, N179q, e179⟩ := hQ179
      have N179 := Fr.app N177 N179q
      obtain ⟨cq181, kq181, q181a, q181b, q181c⟩ := isOf hZ e179 EORDINARY
      obtain ⟨_, _, ⟨T181, L181, k181, n181⟩, -, X181, ⟨Lc181, hQ181, l181, y181, z181⟩, st181⟩ := X179.virtualBack hx (y := (⟨"com/example/cardstand/cardstand/scenario/CardScenario", "fails", "(Lcom/example/cardstand/cardstand/scenario/CardScenario$Operation;)Z"⟩ : MethodName)) (z := (⟨"com/example/cardstand/cardstand/scenario/CardScenario", "fails", "(Lcom/example/cardstand/cardstand/scenario/CardScenario$Operation;)Z"⟩ : MethodName)) hown (mvT hZ (hw _ (List.mem_of_getElem? (i := 11) rfl))) (mvT hZ (hw _ (List.mem_of_getElem? (i := 12) rfl))) (notFace_of_selects (args := #[]) (mvT hZ (hw _ (List.mem_of_getElem? (i := 14) rfl)))) (mvT hZ (hw _ (List.mem_of_getElem? (i := 14) rfl))) (mvT hZ (hw _ (List.mem_of_getElem? (i := 13) rfl))) (by decide) (backOf (W := 0) (rm4 l Z a0 hw [] wORDINARY wBALANCE wCARD_ERROR wPARTIAL wBALANCE wCREATE wPAYMENT_ERROR wLOAD wNO_TOPUP wORDINARY wBALANCE_ERROR h0 n0 Z0 W0 FORDINARY_failing) hZ (hw _ (List.mem_of_getElem? (i := 15) rfl)) (hw _ (List.mem_of_getElem? (i := 6) rfl)) (by decide) (by decide)) q181a q181c (g := (mkF m 66 #[.val (.int p0), .val (.int p1), .val (.int (5 : Int32)), .val (.int (1 : Int32)), .val (.ref wORDINARY), .val (.ref wBALANCE), .val (.int (0 : Int32))] [(.ref wBALANCE), (.ref wORDINARY)])) rfl (by rw [hml]; rfl) (Steps.refl _) (argsL := [(.ref wBALANCE)]) (rest := []) (lenOf pd_2 rfl) rfl (by show 2 * 0 + _ ≤ _; exact Nat.le_of_eq rfl) (hb hby at_66) (fun _ _ => ⟨rfl, e179, (by decide : 0 + 0 ≤ _), (by decide : 0 + 0 ≤ _)⟩)
      dsimp only [Pt.U, Pt.locs, Pt.cells, Pt.slots] at X181 l181 y181 z181 st181 hQ181
      subst l181 y181 z181
      unfold Q4 at hQ181
      have k182 : ∀ t, Steps p.tables e below (T179.setTop (mkF m 66 #[.val (.int p0), .val (.int p1), .val (.int (5 : Int32)), .val (.int (1 : Int32)), .val (.ref wORDINARY), .val (.ref wBALANCE), .val (.int (0 : Int32))] [(.ref wBALANCE), (.ref wORDINARY)])) t → Steps p.tables e below (s₁.setTop (entryFrame m #[(.int p0), (.int p1)] maxLocals)) t := fun t kt => k180 t (by
        show Steps p.tables e below (T177.setTop (mkF m 22 #[.val (.int p0), .val (.int p1), .val (.int (5 : Int32)), .val (.int (1 : Int32)), .val (.ref wORDINARY), .unset, .unset] [(.int (1 : Int32))])) _
        refine st179 _ ?_
        show Steps p.tables e below (T179.setTop (mkF m 25 #[.val (.int p0), .val (.int p1), .val (.int (5 : Int32)), .val (.int (1 : Int32)), .val (.ref wORDINARY), .unset, .unset] [(.ref wBALANCE)])) _
        refine XS.astore X179.here hx rfl (hb hby at_25) rfl rfl (l' := #[.val (.int p0), .val (.int p1), .val (.int (5 : Int32)), .val (.int (1 : Int32)), .val (.ref wORDINARY), .val (.ref wBALANCE), .unset]) rfl ?_
        show Steps p.tables e below (T179.setTop (mkF m 27 #[.val (.int p0), .val (.int p1), .val (.int (5 : Int32)), .val (.int (1 : Int32)), .val (.ref wORDINARY), .val (.ref wBALANCE), .unset] [])) _
        refine XS.iloadN X179.here hx rfl (hb hby at_27) rfl ?_
        show Steps p.tables e below (T179.setTop (mkF m 28 #[.val (.int p0), .val (.int p1), .val (.int (5 : Int32)), .val (.int (1 : Int32)), .val (.ref wORDINARY), .val (.ref wBALANCE), .unset] [(.int (5 : Int32))])) _
        refine XS.ifYes X179.here hx rfl (pc0 := 28) (pc' := 35) rfl (hb hby at_28) rfl ((if0 _ _).trans (feq ((by decide) : ¬ ((5 : Int32) = (0 : Int32)))).2) (by decide) (by decide) ?_
        show Steps p.tables e below (T179.setTop (mkF m 35 #[.val (.int p0), .val (.int p1), .val (.int (5 : Int32)), .val (.int (1 : Int32)), .val (.ref wORDINARY), .val (.ref wBALANCE), .unset] [])) _
        refine XS.iloadN X179.here hx rfl (hb hby at_35) rfl ?_
        show Steps p.tables e below (T179.setTop (mkF m 36 #[.val (.int p0), .val (.int p1), .val (.int (5 : Int32)), .val (.int (1 : Int32)), .val (.ref wORDINARY), .val (.ref wBALANCE), .unset] [(.int (5 : Int32))])) _
        refine XS.iconst X179.here hx rfl (hb hby at_36) ?_
        show Steps p.tables e below (T179.setTop (mkF m 37 #[.val (.int p0), .val (.int p1), .val (.int (5 : Int32)), .val (.int (1 : Int32)), .val (.ref wORDINARY), .val (.ref wBALANCE), .unset] [(.int (3 : Int32)), (.int (5 : Int32))])) _
        refine XS.icmpYes X179.here hx rfl (pc0 := 37) (pc' := 45) rfl (hb hby at_37) rfl (feq ((by decide) : ¬ ((5 : Int32) = (3 : Int32)))).2 (by decide) (by decide) ?_
        show Steps p.tables e below (T179.setTop (mkF m 45 #[.val (.int p0), .val (.int p1), .val (.int (5 : Int32)), .val (.int (1 : Int32)), .val (.ref wORDINARY), .val (.ref wBALANCE), .unset] [])) _
        refine XS.iloadN X179.here hx rfl (hb hby at_45) rfl ?_
        show Steps p.tables e below (T179.setTop (mkF m 46 #[.val (.int p0), .val (.int p1), .val (.int (5 : Int32)), .val (.int (1 : Int32)), .val (.ref wORDINARY), .val (.ref wBALANCE), .unset] [(.int (5 : Int32))])) _
        refine XS.iconst X179.here hx rfl (hb hby at_46) ?_
        show Steps p.tables e below (T179.setTop (mkF m 47 #[.val (.int p0), .val (.int p1), .val (.int (5 : Int32)), .val (.int (1 : Int32)), .val (.ref wORDINARY), .val (.ref wBALANCE), .unset] [(.int (4 : Int32)), (.int (5 : Int32))])) _
        refine XS.icmpYes X179.here hx rfl (pc0 := 47) (pc' := 59) rfl (hb hby at_47) rfl (feq ((by decide) : ¬ ((5 : Int32) = (4 : Int32)))).2 (by decide) (by decide) ?_
        show Steps p.tables e below (T179.setTop (mkF m 59 #[.val (.int p0), .val (.int p1), .val (.int (5 : Int32)), .val (.int (1 : Int32)), .val (.ref wORDINARY), .val (.ref wBALANCE), .unset] [])) _
        refine XS.iconst X179.here hx rfl (hb hby at_59) ?_
        show Steps p.tables e below (T179.setTop (mkF m 60 #[.val (.int p0), .val (.int p1), .val (.int (5 : Int32)), .val (.int (1 : Int32)), .val (.ref wORDINARY), .val (.ref wBALANCE), .unset] [(.int (0 : Int32))])) _
        refine XS.istore X179.here hx rfl (hb hby at_60) rfl (l' := #[.val (.int p0), .val (.int p1), .val (.int (5 : Int32)), .val (.int (1 : Int32)), .val (.ref wORDINARY), .val (.ref wBALANCE), .val (.int (0 : Int32))]) rfl ?_
        show Steps p.tables e below (T179.setTop (mkF m 62 #[.val (.int p0), .val (.int p1), .val (.int (5 : Int32)), .val (.int (1 : Int32)), .val (.ref wORDINARY), .val (.ref wBALANCE), .val (.int (0 : Int32))] [])) _
        refine XS.aload X179.here hx rfl (hb hby at_62) rfl rfl ?_
        show Steps p.tables e below (T179.setTop (mkF m 64 #[.val (.int p0), .val (.int p1), .val (.int (5 : Int32)), .val (.int (1 : Int32)), .val (.ref wORDINARY), .val (.ref wBALANCE), .val (.int (0 : Int32))] [(.ref wORDINARY)])) _
        refine XS.aload X179.here hx rfl (hb hby at_64) rfl rfl ?_
        exact kt)
      rw [((by rw [f4]) : (f4 wORDINARY wBALANCE wCARD_ERROR wPARTIAL wBALANCE wCREATE wPAYMENT_ERROR wLOAD wNO_TOPUP wORDINARY wBALANCE_ERROR) = (0 : Int32))] at hQ181
      obtain ⟨rfl, N181q, e181⟩ := hQ181
      have N181 := Fr.app N179 N181q
      obtain ⟨fs, hr, hrun, hended, hW, hsame⟩ := X181.leave (v := some (.int (1 : Int32))) (fun h => by rw [Bd.returns] at h; cases h)
      refine ⟨_, _, k182 _ ?_, hrun, hended, _, _, rfl, ?_, ⟨_, rfl⟩, hW, hsame.mono (by decide) (by decide)⟩
      · show Steps p.tables e below (T179.setTop (mkF m 66 #[.val (.int p0), .val (.int p1), .val (.int (5 : Int32)), .val (.int (1 : Int32)), .val (.ref wORDINARY), .val (.ref wBALANCE), .val (.int (0 : Int32))] [(.ref wBALANCE), (.ref wORDINARY)])) _
        refine st181.trans ?_
        show Steps p.tables e below (T181.setTop (mkF m 69 #[.val (.int p0), .val (.int p1), .val (.int (5 : Int32)), .val (.int (1 : Int32)), .val (.ref wORDINARY), .val (.ref wBALANCE), .val (.int (0 : Int32))] [(.int (0 : Int32))])) _
        refine XS.iload X181.here hx rfl (hb hby at_69) rfl ?_
        show Steps p.tables e below (T181.setTop (mkF m 71 #[.val (.int p0), .val (.int p1), .val (.int (5 : Int32)), .val (.int (1 : Int32)), .val (.ref wORDINARY), .val (.ref wBALANCE), .val (.int (0 : Int32))] [(.int (0 : Int32)), (.int (0 : Int32))])) _
        refine XS.icmpNo X181.here hx rfl (hb hby at_71) rfl (teq (rfl : (0 : Int32) = (0 : Int32))).2 ?_
        show Steps p.tables e below (T181.setTop (mkF m 74 #[.val (.int p0), .val (.int p1), .val (.int (5 : Int32)), .val (.int (1 : Int32)), .val (.ref wORDINARY), .val (.ref wBALANCE), .val (.int (0 : Int32))] [])) _
        refine XS.iconst X181.here hx rfl (hb hby at_74) ?_
        show Steps p.tables e below (T181.setTop (mkF m 75 #[.val (.int p0), .val (.int p1), .val (.int (5 : Int32)), .val (.int (1 : Int32)), .val (.ref wORDINARY), .val (.ref wBALANCE), .val (.int (0 : Int32))] [(.int (1 : Int32))])) _
        refine XS.goto X181.here hx rfl (pc0 := 75) (pc' := 79) rfl (hb hby at_75) (by decide) (by decide) ?_
        show Steps p.tables e below (T181.setTop (mkF m 79 #[.val (.int p0), .val (.int p1), .val (.int (5 : Int32)), .val (.int (1 : Int32)), .val (.ref wORDINARY), .val (.ref wBALANCE), .val (.int (0 : Int32))] [(.int (1 : Int32))])) _
        exact retN X181 hx (t := .boolean) Bd.returns (by simp) (hb hby at_79) hr
      · show Q0 Z p0 p1 wCARD_ERROR wPARTIAL wBALANCE wCREATE wPAYMENT_ERROR wLOAD wNO_TOPUP wORDINARY wBALANCE_ERROR h0 n0 _ T181.heap _
        rw [e181]
        exact ⟨rfl, N181⟩
    · subst hv170
      obtain ⟨_, _, ⟨T183, L183, k183, n183⟩, -, X183, ⟨Lc183, hQ183, l183, y183, z183⟩, st183⟩ := Jvm.LawKit.callS X0 hx (y := (⟨"com/example/cardstand/cardstand/scenario/CardScenarioFailsPinLaw", "scenario", "(I)Lcom/example/cardstand/cardstand/scenario/CardScenario;"⟩ : MethodName)) hown (mvT hZ (hw _ (List.mem_of_getElem? (i := 1) rfl))) (mvT hZ (hw _ (List.mem_of_getElem? (i := 2) rfl))) (mvT hZ (hw _ (List.mem_of_getElem? (i := 3) rfl))) (mvT hZ (hw _ (List.mem_of_getElem? (i := 4) rfl))) (by decide) (backOf (W := 0) (rm1 l Z a0 hw [] (5 : Int32) wCARD_ERROR wPARTIAL wBALANCE wCREATE wPAYMENT_ERROR wLOAD wNO_TOPUP wORDINARY wBALANCE_ERROR h0 n0 Z0 W0 ) hZ (hw _ (List.mem_of_getElem? (i := 4) rfl)) (hw _ (List.mem_of_getElem? (i := 3) rfl)) (by decide) (by decide)) (g := (mkF m 16 #[.val (.int p0), .val (.int p1), .val (.int (5 : Int32)), .val (.int (2 : Int32)), .unset, .unset, .unset] [(.int (5 : Int32))])) rfl (by rw [hml]; rfl) (argsL := [(.int (5 : Int32))]) (rest := []) (lenOf pd_0 rfl) rfl (by show 2 * 0 + _ ≤ _; exact Nat.le_of_eq rfl) (hb hby at_16) (fun _ _ => ⟨rfl, e0, (by decide : 0 + 0 ≤ _), (by decide : 0 + 0 ≤ _)⟩)
      dsimp only [Pt.U, Pt.locs, Pt.cells, Pt.slots] at X183 l183 y183 z183 st183 hQ183
      subst l183 y183 z183
      unfold Q1 at hQ183
      have k184 : ∀ t, Steps p.tables e below (s₁.setTop (mkF m 16 #[.val (.int p0), .val (.int p1), .val (.int (5 : Int32)), .val (.int (2 : Int32)), .unset, .unset, .unset] [(.int (5 : Int32))])) t → Steps p.tables e below (s₁.setTop (entryFrame m #[(.int p0), (.int p1)] maxLocals)) t := fun t kt => k169 t (by
        show Steps p.tables e below (s₁.setTop (mkF m 15 #[.val (.int p0), .val (.int p1), .val (.int (5 : Int32)), .val (.int (2 : Int32)), .unset, .unset, .unset] [])) _
        refine XS.iloadN X0.here hx rfl (hb hby at_15) rfl ?_
        exact kt)
      rw [((by rw [f1, if_neg ((by decide) : ¬ ((5 : Int32) = (0 : Int32))), if_neg ((by decide) : ¬ ((5 : Int32) = (1 : Int32))), if_neg ((by decide) : ¬ ((5 : Int32) = (2 : Int32))), if_neg ((by decide) : ¬ ((5 : Int32) = (3 : Int32))), if_neg ((by decide) : ¬ ((5 : Int32) = (4 : Int32)))]) : (f1 (5 : Int32) wCARD_ERROR wPARTIAL wBALANCE wCREATE wPAYMENT_ERROR wLOAD wNO_TOPUP wORDINARY wBALANCE_ERROR) = wORDINARY)] at hQ183
      obtain ⟨rfl, N183q, e183⟩ := hQ183
      have N183 := Fr.app N0 N183q
      obtain ⟨_, _, ⟨T185, L185, k185, n185⟩, -, X185, ⟨Lc185, hQ185, l185, y185, z185⟩, st185⟩ := Jvm.LawKit.callS X183 hx (y := (⟨"com/example/cardstand/cardstand/scenario/CardScenarioFailsPinLaw", "operation", "(I)Lcom/example/cardstand/cardstand/scenario/CardScenario$Operation;"⟩ : MethodName)) hown (mvT hZ (hw _ (List.mem_of_getElem? (i := 8) rfl))) (mvT hZ (hw _ (List.mem_of_getElem? (i := 9) rfl))) (mvT hZ (hw _ (List.mem_of_getElem? (i := 3) rfl))) (mvT hZ (hw _ (List.mem_of_getElem? (i := 10) rfl))) (by decide) (backOf (W := 0) (rm2 l Z a0 hw [] (2 : Int32) wCARD_ERROR wPARTIAL wBALANCE wCREATE wPAYMENT_ERROR wLOAD wNO_TOPUP wORDINARY wBALANCE_ERROR h0 n0 Z0 W0 ) hZ (hw _ (List.mem_of_getElem? (i := 10) rfl)) (hw _ (List.mem_of_getElem? (i := 3) rfl)) (by decide) (by decide)) (g := (mkF m 22 #[.val (.int p0), .val (.int p1), .val (.int (5 : Int32)), .val (.int (2 : Int32)), .val (.ref wORDINARY), .unset, .unset] [(.int (2 : Int32))])) rfl (by rw [hml]; rfl) (argsL := [(.int (2 : Int32))]) (rest := []) (lenOf pd_1 rfl) rfl (by show 2 * 0 + _ ≤ _; exact Nat.le_of_eq rfl) (hb hby at_22) (fun _ _ => ⟨rfl, e183, (by decide : 0 + 0 ≤ _), (by decide : 0 + 0 ≤ _)⟩)
      dsimp only [Pt.U, Pt.locs, Pt.cells, Pt.slots] at X185 l185 y185 z185 st185 hQ185
      subst l185 y185 z185
      unfold Q2 at hQ185
      have k186 : ∀ t, Steps p.tables e below (T183.setTop (mkF m 22 #[.val (.int p0), .val (.int p1), .val (.int (5 : Int32)), .val (.int (2 : Int32)), .val (.ref wORDINARY), .unset, .unset] [(.int (2 : Int32))])) t → Steps p.tables e below (s₁.setTop (entryFrame m #[(.int p0), (.int p1)] maxLocals)) t := fun t kt => k184 t (by
        show Steps p.tables e below (s₁.setTop (mkF m 16 #[.val (.int p0), .val (.int p1), .val (.int (5 : Int32)), .val (.int (2 : Int32)), .unset, .unset, .unset] [(.int (5 : Int32))])) _
        refine st183 _ ?_
        show Steps p.tables e below (T183.setTop (mkF m 19 #[.val (.int p0), .val (.int p1), .val (.int (5 : Int32)), .val (.int (2 : Int32)), .unset, .unset, .unset] [(.ref wORDINARY)])) _
        refine XS.astore X183.here hx rfl (hb hby at_19) rfl rfl (l' := #[.val (.int p0), .val (.int p1), .val (.int (5 : Int32)), .val (.int (2 : Int32)), .val (.ref wORDINARY), .unset, .unset]) rfl ?_
        show Steps p.tables e below (T183.setTop (mkF m 21 #[.val (.int p0), .val (.int p1), .val (.int (5 : Int32)), .val (.int (2 : Int32)), .val (.ref wORDINARY), .unset, .unset] [])) _
        refine XS.iloadN X183.here hx rfl (hb hby at_21) rfl ?_
        exact kt)
      rw [((by rw [f2, if_neg ((by decide) : ¬ ((2 : Int32) = (0 : Int32))), if_neg ((by decide) : ¬ ((2 : Int32) = (1 : Int32))), if_pos (rfl : (2 : Int32) = (2 : Int32))]) : (f2 (2 : Int32) wCARD_ERROR wPARTIAL wBALANCE wCREATE wPAYMENT_ERROR wLOAD wNO_TOPUP wORDINARY wBALANCE_ERROR) = (.ref wLOAD))] at hQ185
      obtain ⟨rfl, N185q, e185⟩ := hQ185
      have N185 := Fr.app N183 N185q
      obtain ⟨cq187, kq187, q187a, q187b, q187c⟩ := isOf hZ e185 EORDINARY
      obtain ⟨_, _, ⟨T187, L187, k187, n187⟩, -, X187, ⟨Lc187, hQ187, l187, y187, z187⟩, st187⟩ := X185.virtualBack hx (y := (⟨"com/example/cardstand/cardstand/scenario/CardScenario", "fails", "(Lcom/example/cardstand/cardstand/scenario/CardScenario$Operation;)Z"⟩ : MethodName)) (z := (⟨"com/example/cardstand/cardstand/scenario/CardScenario", "fails", "(Lcom/example/cardstand/cardstand/scenario/CardScenario$Operation;)Z"⟩ : MethodName)) hown (mvT hZ (hw _ (List.mem_of_getElem? (i := 11) rfl))) (mvT hZ (hw _ (List.mem_of_getElem? (i := 12) rfl))) (notFace_of_selects (args := #[]) (mvT hZ (hw _ (List.mem_of_getElem? (i := 14) rfl)))) (mvT hZ (hw _ (List.mem_of_getElem? (i := 14) rfl))) (mvT hZ (hw _ (List.mem_of_getElem? (i := 13) rfl))) (by decide) (backOf (W := 0) (rm4 l Z a0 hw [] wORDINARY wLOAD wCARD_ERROR wPARTIAL wBALANCE wCREATE wPAYMENT_ERROR wLOAD wNO_TOPUP wORDINARY wBALANCE_ERROR h0 n0 Z0 W0 FORDINARY_failing) hZ (hw _ (List.mem_of_getElem? (i := 15) rfl)) (hw _ (List.mem_of_getElem? (i := 6) rfl)) (by decide) (by decide)) q187a q187c (g := (mkF m 66 #[.val (.int p0), .val (.int p1), .val (.int (5 : Int32)), .val (.int (2 : Int32)), .val (.ref wORDINARY), .val (.ref wLOAD), .val (.int (0 : Int32))] [(.ref wLOAD), (.ref wORDINARY)])) rfl (by rw [hml]; rfl) (Steps.refl _) (argsL := [(.ref wLOAD)]) (rest := []) (lenOf pd_2 rfl) rfl (by show 2 * 0 + _ ≤ _; exact Nat.le_of_eq rfl) (hb hby at_66) (fun _ _ => ⟨rfl, e185, (by decide : 0 + 0 ≤ _), (by decide : 0 + 0 ≤ _)⟩)
      dsimp only [Pt.U, Pt.locs, Pt.cells, Pt.slots] at X187 l187 y187 z187 st187 hQ187
      subst l187 y187 z187
      unfold Q4 at hQ187
      have k188 : ∀ t, Steps p.tables e below (T185.setTop (mkF m 66 #[.val (.int p0), .val (.int p1), .val (.int (5 : Int32)), .val (.int (2 : Int32)), .val (.ref wORDINARY), .val (.ref wLOAD), .val (.int (0 : Int32))] [(.ref wLOAD), (.ref wORDINARY)])) t → Steps p.tables e below (s₁.setTop (entryFrame m #[(.int p0), (.int p1)] maxLocals)) t := fun t kt => k186 t (by
        show Steps p.tables e below (T183.setTop (mkF m 22 #[.val (.int p0), .val (.int p1), .val (.int (5 : Int32)), .val (.int (2 : Int32)), .val (.ref wORDINARY), .unset, .unset] [(.int (2 : Int32))])) _
        refine st185 _ ?_
        show Steps p.tables e below (T185.setTop (mkF m 25 #[.val (.int p0), .val (.int p1), .val (.int (5 : Int32)), .val (.int (2 : Int32)), .val (.ref wORDINARY), .unset, .unset] [(.ref wLOAD)])) _
        refine XS.astore X185.here hx rfl (hb hby at_25) rfl rfl (l' := #[.val (.int p0), .val (.int p1), .val (.int (5 : Int32)), .val (.int (2 : Int32)), .val (.ref wORDINARY), .val (.ref wLOAD), .unset]) rfl ?_
        show Steps p.tables e below (T185.setTop (mkF m 27 #[.val (.int p0), .val (.int p1), .val (.int (5 : Int32)), .val (.int (2 : Int32)), .val (.ref wORDINARY), .val (.ref wLOAD), .unset] [])) _
        refine XS.iloadN X185.here hx rfl (hb hby at_27) rfl ?_
        show Steps p.tables e below (T185.setTop (mkF m 28 #[.val (.int p0), .val (.int p1), .val (.int (5 : Int32)), .val (.int (2 : Int32)), .val (.ref wORDINARY), .val (.ref wLOAD), .unset] [(.int (5 : Int32))])) _
        refine XS.ifYes X185.here hx rfl (pc0 := 28) (pc' := 35) rfl (hb hby at_28) rfl ((if0 _ _).trans (feq ((by decide) : ¬ ((5 : Int32) = (0 : Int32)))).2) (by decide) (by decide) ?_
        show Steps p.tables e below (T185.setTop (mkF m 35 #[.val (.int p0), .val (.int p1), .val (.int (5 : Int32)), .val (.int (2 : Int32)), .val (.ref wORDINARY), .val (.ref wLOAD), .unset] [])) _
        refine XS.iloadN X185.here hx rfl (hb hby at_35) rfl ?_
        show Steps p.tables e below (T185.setTop (mkF m 36 #[.val (.int p0), .val (.int p1), .val (.int (5 : Int32)), .val (.int (2 : Int32)), .val (.ref wORDINARY), .val (.ref wLOAD), .unset] [(.int (5 : Int32))])) _
        refine XS.iconst X185.here hx rfl (hb hby at_36) ?_
        show Steps p.tables e below (T185.setTop (mkF m 37 #[.val (.int p0), .val (.int p1), .val (.int (5 : Int32)), .val (.int (2 : Int32)), .val (.ref wORDINARY), .val (.ref wLOAD), .unset] [(.int (3 : Int32)), (.int (5 : Int32))])) _
        refine XS.icmpYes X185.here hx rfl (pc0 := 37) (pc' := 45) rfl (hb hby at_37) rfl (feq ((by decide) : ¬ ((5 : Int32) = (3 : Int32)))).2 (by decide) (by decide) ?_
        show Steps p.tables e below (T185.setTop (mkF m 45 #[.val (.int p0), .val (.int p1), .val (.int (5 : Int32)), .val (.int (2 : Int32)), .val (.ref wORDINARY), .val (.ref wLOAD), .unset] [])) _
        refine XS.iloadN X185.here hx rfl (hb hby at_45) rfl ?_
        show Steps p.tables e below (T185.setTop (mkF m 46 #[.val (.int p0), .val (.int p1), .val (.int (5 : Int32)), .val (.int (2 : Int32)), .val (.ref wORDINARY), .val (.ref wLOAD), .unset] [(.int (5 : Int32))])) _
        refine XS.iconst X185.here hx rfl (hb hby at_46) ?_
        show Steps p.tables e below (T185.setTop (mkF m 47 #[.val (.int p0), .val (.int p1), .val (.int (5 : Int32)), .val (.int (2 : Int32)), .val (.ref wORDINARY), .val (.ref wLOAD), .unset] [(.int (4 : Int32)), (.int (5 : Int32))])) _
        refine XS.icmpYes X185.here hx rfl (pc0 := 47) (pc' := 59) rfl (hb hby at_47) rfl (feq ((by decide) : ¬ ((5 : Int32) = (4 : Int32)))).2 (by decide) (by decide) ?_
        show Steps p.tables e below (T185.setTop (mkF m 59 #[.val (.int p0), .val (.int p1), .val (.int (5 : Int32)), .val (.int (2 : Int32)), .val (.ref wORDINARY), .val (.ref wLOAD), .unset] [])) _
        refine XS.iconst X185.here hx rfl (hb hby at_59) ?_
        show Steps p.tables e below (T185.setTop (mkF m 60 #[.val (.int p0), .val (.int p1), .val (.int (5 : Int32)), .val (.int (2 : Int32)), .val (.ref wORDINARY), .val (.ref wLOAD), .unset] [(.int (0 : Int32))])) _
        refine XS.istore X185.here hx rfl (hb hby at_60) rfl (l' := #[.val (.int p0), .val (.int p1), .val (.int (5 : Int32)), .val (.int (2 : Int32)), .val (.ref wORDINARY), .val (.ref wLOAD), .val (.int (0 : Int32))]) rfl ?_
        show Steps p.tables e below (T185.setTop (mkF m 62 #[.val (.int p0), .val (.int p1), .val (.int (5 : Int32)), .val (.int (2 : Int32)), .val (.ref wORDINARY), .val (.ref wLOAD), .val (.int (0 : Int32))] [])) _
        refine XS.aload X185.here hx rfl (hb hby at_62) rfl rfl ?_
        show Steps p.tables e below (T185.setTop (mkF m 64 #[.val (.int p0), .val (.int p1), .val (.int (5 : Int32)), .val (.int (2 : Int32)), .val (.ref wORDINARY), .val (.ref wLOAD), .val (.int (0 : Int32))] [(.ref wORDINARY)])) _
        refine XS.aload X185.here hx rfl (hb hby at_64) rfl rfl ?_
        exact kt)
      rw [((by rw [f4]) : (f4 wORDINARY wLOAD wCARD_ERROR wPARTIAL wBALANCE wCREATE wPAYMENT_ERROR wLOAD wNO_TOPUP wORDINARY wBALANCE_ERROR) = (0 : Int32))] at hQ187
      obtain ⟨rfl, N187q, e187⟩ := hQ187
      have N187 := Fr.app N185 N187q
      obtain ⟨fs, hr, hrun, hended, hW, hsame⟩ := X187.leave (v := some (.int (1 : Int32))) (fun h => by rw [Bd.returns] at h; cases h)
      refine ⟨_, _, k188 _ ?_, hrun, hended, _, _, rfl, ?_, ⟨_, rfl⟩, hW, hsame.mono (by decide) (by decide)⟩
      · show Steps p.tables e below (T185.setTop (mkF m 66 #[.val (.int p0), .val (.int p1), .val (.int (5 : Int32)), .val (.int (2 : Int32)), .val (.ref wORDINARY), .val (.ref wLOAD), .val (.int (0 : Int32))] [(.ref wLOAD), (.ref wORDINARY)])) _
        refine st187.trans ?_
        show Steps p.tables e below (T187.setTop (mkF m 69 #[.val (.int p0), .val (.int p1), .val (.int (5 : Int32)), .val (.int (2 : Int32)), .val (.ref wORDINARY), .val (.ref wLOAD), .val (.int (0 : Int32))] [(.int (0 : Int32))])) _
        refine XS.iload X187.here hx rfl (hb hby at_69) rfl ?_
        show Steps p.tables e below (T187.setTop (mkF m 71 #[.val (.int p0), .val (.int p1), .val (.int (5 : Int32)), .val (.int (2 : Int32)), .val (.ref wORDINARY), .val (.ref wLOAD), .val (.int (0 : Int32))] [(.int (0 : Int32)), (.int (0 : Int32))])) _
        refine XS.icmpNo X187.here hx rfl (hb hby at_71) rfl (teq (rfl : (0 : Int32) = (0 : Int32))).2 ?_
        show Steps p.tables e below (T187.setTop (mkF m 74 #[.val (.int p0), .val (.int p1), .val (.int (5 : Int32)), .val (.int (2 : Int32)), .val (.ref wORDINARY), .val (.ref wLOAD), .val (.int (0 : Int32))] [])) _
        refine XS.iconst X187.here hx rfl (hb hby at_74) ?_
        show Steps p.tables e below (T187.setTop (mkF m 75 #[.val (.int p0), .val (.int p1), .val (.int (5 : Int32)), .val (.int (2 : Int32)), .val (.ref wORDINARY), .val (.ref wLOAD), .val (.int (0 : Int32))] [(.int (1 : Int32))])) _
        refine XS.goto X187.here hx rfl (pc0 := 75) (pc' := 79) rfl (hb hby at_75) (by decide) (by decide) ?_
        show Steps p.tables e below (T187.setTop (mkF m 79 #[.val (.int p0), .val (.int p1), .val (.int (5 : Int32)), .val (.int (2 : Int32)), .val (.ref wORDINARY), .val (.ref wLOAD), .val (.int (0 : Int32))] [(.int (1 : Int32))])) _
        exact retN X187 hx (t := .boolean) Bd.returns (by simp) (hb hby at_79) hr
      · show Q0 Z p0 p1 wCARD_ERROR wPARTIAL wBALANCE wCREATE wPAYMENT_ERROR wLOAD wNO_TOPUP wORDINARY wBALANCE_ERROR h0 n0 _ T187.heap _
        rw [e187]
        exact ⟨rfl, N187⟩
    · subst hv170
      obtain ⟨_, _, ⟨T189, L189, k189, n189⟩, -, X189, ⟨Lc189, hQ189, l189, y189, z189⟩, st189⟩ := Jvm.LawKit.callS X0 hx (y := (⟨"com/example/cardstand/cardstand/scenario/CardScenarioFailsPinLaw", "scenario", "(I)Lcom/example/cardstand/cardstand/scenario/CardScenario;"⟩ : MethodName)) hown (mvT hZ (hw _ (List.mem_of_getElem? (i := 1) rfl))) (mvT hZ (hw _ (List.mem_of_getElem? (i := 2) rfl))) (mvT hZ (hw _ (List.mem_of_getElem? (i := 3) rfl))) (mvT hZ (hw _ (List.mem_of_getElem? (i := 4) rfl))) (by decide) (backOf (W := 0) (rm1 l Z a0 hw [] (5 : Int32) wCARD_ERROR wPARTIAL wBALANCE wCREATE wPAYMENT_ERROR wLOAD wNO_TOPUP wORDINARY wBALANCE_ERROR h0 n0 Z0 W0 ) hZ (hw _ (List.mem_of_getElem? (i := 4) rfl)) (hw _ (List.mem_of_getElem? (i := 3) rfl)) (by decide) (by decide)) (g := (mkF m 16 #[.val (.int p0), .val (.int p1), .val (.int (5 : Int32)), .val (.int (3 : Int32)), .unset, .unset, .unset] [(.int (5 : Int32))])) rfl (by rw [hml]; rfl) (argsL := [(.int (5 : Int32))]) (rest := []) (lenOf pd_0 rfl) rfl (by show 2 * 0 + _ ≤ _; exact Nat.le_of_eq rfl) (hb hby at_16) (fun _ _ => ⟨rfl, e0, (by decide : 0 + 0 ≤ _), (by decide : 0 + 0 ≤ _)⟩)
      dsimp only [Pt.U, Pt.locs, Pt.cells, Pt.slots] at X189 l189 y189 z189 st189 hQ189
      subst l189 y189 z189
      unfold Q1 at hQ189
      have k190 : ∀ t, Steps p.tables e below (s₁.setTop (mkF m 16 #[.val (.int p0), .val (.int p1), .val (.int (5 : Int32)), .val (.int (3 : Int32)), .unset, .unset, .unset] [(.int (5 : Int32))])) t → Steps p.tables e below (s₁.setTop (entryFrame m #[(.int p0), (.int p1)] maxLocals)) t := fun t kt => k169 t (by
        show Steps p.tables e below (s₁.setTop (mkF m 15 #[.val (.int p0), .val (.int p1), .val (.int (5 : Int32)), .val (.int (3 : Int32)), .unset, .unset, .unset] [])) _
        refine XS.iloadN X0.here hx rfl (hb hby at_15) rfl ?_
        exact kt)
      rw [((by rw [f1, if_neg ((by decide) : ¬ ((5 : Int32) = (0 : Int32))), if_neg ((by decide) : ¬ ((5 : Int32) = (1 : Int32))), if_neg ((by decide) : ¬ ((5 : Int32) = (2 : Int32))), if_neg ((by decide) : ¬ ((5 : Int32) = (3 : Int32))), if_neg ((by decide) : ¬ ((5 : Int32) = (4 : Int32)))]) : (f1 (5 : Int32) wCARD_ERROR wPARTIAL wBALANCE wCREATE wPAYMENT_ERROR wLOAD wNO_TOPUP wORDINARY wBALANCE_ERROR) = wORDINARY)] at hQ189
      obtain ⟨rfl, N189q, e189⟩ := hQ189
      have N189 := Fr.app N0 N189q
      obtain ⟨_, _, ⟨T191, L191, k191, n191⟩, -, X191, ⟨Lc191, hQ191, l191, y191, z191⟩, st191⟩ := Jvm.LawKit.callS X189 hx (y := (⟨"com/example/cardstand/cardstand/scenario/CardScenarioFailsPinLaw", "operation", "(I)Lcom/example/cardstand/cardstand/scenario/CardScenario$Operation;"⟩ : MethodName)) hown (mvT hZ (hw _ (List.mem_of_getElem? (i := 8) rfl))) (mvT hZ (hw _ (List.mem_of_getElem? (i := 9) rfl))) (mvT hZ (hw _ (List.mem_of_getElem? (i := 3) rfl))) (mvT hZ (hw _ (List.mem_of_getElem? (i := 10) rfl))) (by decide) (backOf (W := 0) (rm2 l Z a0 hw [] (3 : Int32) wCARD_ERROR wPARTIAL wBALANCE wCREATE wPAYMENT_ERROR wLOAD wNO_TOPUP wORDINARY wBALANCE_ERROR h0 n0 Z0 W0 ) hZ (hw _ (List.mem_of_getElem? (i := 10) rfl)) (hw _ (List.mem_of_getElem? (i := 3) rfl)) (by decide) (by decide)) (g := (mkF m 22 #[.val (.int p0), .val (.int p1), .val (.int (5 : Int32)), .val (.int (3 : Int32)), .val (.ref wORDINARY), .unset, .unset] [(.int (3 : Int32))])) rfl (by rw [hml]; rfl) (argsL := [(.int (3 : Int32))]) (rest := []) (lenOf pd_1 rfl) rfl (by show 2 * 0 + _ ≤ _; exact Nat.le_of_eq rfl) (hb hby at_22) (fun _ _ => ⟨rfl, e189, (by decide : 0 + 0 ≤ _), (by decide : 0 + 0 ≤ _)⟩)
      dsimp only [Pt.U, Pt.locs, Pt.cells, Pt.slots] at X191 l191 y191 z191 st191 hQ191
      subst l191 y191 z191
      unfold Q2 at hQ191
      have k192 : ∀ t, Steps p.tables e below (T189.setTop (mkF m 22 #[.val (.int p0), .val (.int p1), .val (.int (5 : Int32)), .val (.int (3 : Int32)), .val (.ref wORDINARY), .unset, .unset] [(.int (3 : Int32))])) t → Steps p.tables e below (s₁.setTop (entryFrame m #[(.int p0), (.int p1)] maxLocals)) t := fun t kt => k190 t (by
        show Steps p.tables e below (s₁.setTop (mkF m 16 #[.val (.int p0), .val (.int p1), .val (.int (5 : Int32)), .val (.int (3 : Int32)), .unset, .unset, .unset] [(.int (5 : Int32))])) _
        refine st189 _ ?_
        show Steps p.tables e below (T189.setTop (mkF m 19 #[.val (.int p0), .val (.int p1), .val (.int (5 : Int32)), .val (.int (3 : Int32)), .unset, .unset, .unset] [(.ref wORDINARY)])) _
        refine XS.astore X189.here hx rfl (hb hby at_19) rfl rfl (l' := #[.val (.int p0), .val (.int p1), .val (.int (5 : Int32)), .val (.int (3 : Int32)), .val (.ref wORDINARY), .unset, .unset]) rfl ?_
        show Steps p.tables e below (T189.setTop (mkF m 21 #[.val (.int p0), .val (.int p1), .val (.int (5 : Int32)), .val (.int (3 : Int32)), .val (.ref wORDINARY), .unset, .unset] [])) _
        refine XS.iloadN X189.here hx rfl (hb hby at_21) rfl ?_
        exact kt)
      rw [((by rw [f2, if_neg ((by decide) : ¬ ((3 : Int32) = (0 : Int32))), if_neg ((by decide) : ¬ ((3 : Int32) = (1 : Int32))), if_neg ((by decide) : ¬ ((3 : Int32) = (2 : Int32)))]) : (f2 (3 : Int32) wCARD_ERROR wPARTIAL wBALANCE wCREATE wPAYMENT_ERROR wLOAD wNO_TOPUP wORDINARY wBALANCE_ERROR) = .null)] at hQ191
      obtain ⟨rfl, N191q, e191⟩ := hQ191
      have N191 := Fr.app N189 N191q
      obtain ⟨cq193, kq193, q193a, q193b, q193c⟩ := isOf hZ e191 EORDINARY
      obtain ⟨_, _, ⟨T193, L193, k193, n193⟩, -, X193, ⟨Lc193, hQ193, l193, y193, z193⟩, st193⟩ := X191.virtualBack hx (y := (⟨"com/example/cardstand/cardstand/scenario/CardScenario", "fails", "(Lcom/example/cardstand/cardstand/scenario/CardScenario$Operation;)Z"⟩ : MethodName)) (z := (⟨"com/example/cardstand/cardstand/scenario/CardScenario", "fails", "(Lcom/example/cardstand/cardstand/scenario/CardScenario$Operation;)Z"⟩ : MethodName)) hown (mvT hZ (hw _ (List.mem_of_getElem? (i := 11) rfl))) (mvT hZ (hw _ (List.mem_of_getElem? (i := 12) rfl))) (notFace_of_selects (args := #[]) (mvT hZ (hw _ (List.mem_of_getElem? (i := 14) rfl)))) (mvT hZ (hw _ (List.mem_of_getElem? (i := 14) rfl))) (mvT hZ (hw _ (List.mem_of_getElem? (i := 13) rfl))) (by decide) (backOf (W := 0) (rm5 l Z a0 hw [] wORDINARY wCARD_ERROR wPARTIAL wBALANCE wCREATE wPAYMENT_ERROR wLOAD wNO_TOPUP wORDINARY wBALANCE_ERROR h0 n0 Z0 W0 ) hZ (hw _ (List.mem_of_getElem? (i := 15) rfl)) (hw _ (List.mem_of_getElem? (i := 6) rfl)) (by decide) (by decide)) q193a q193c (g := (mkF m 66 #[.val (.int p0), .val (.int p1), .val (.int (5 : Int32)), .val (.int (3 : Int32)), .val (.ref wORDINARY), .val .null, .val (.int (0 : Int32))] [.null, (.ref wORDINARY)])) rfl (by rw [hml]; rfl) (Steps.refl _) (argsL := [.null]) (rest := []) (lenOf pd_2 rfl) rfl (by show 2 * 0 + _ ≤ _; exact Nat.le_of_eq rfl) (hb hby at_66) (fun _ _ => ⟨rfl, e191, (by decide : 0 + 0 ≤ _), (by decide : 0 + 0 ≤ _)⟩)
      dsimp only [Pt.U, Pt.locs, Pt.cells, Pt.slots] at X193 l193 y193 z193 st193 hQ193
      subst l193 y193 z193
      unfold Q5 at hQ193
      have k194 : ∀ t, Steps p.tables e below (T191.setTop (mkF m 66 #[.val (.int p0), .val (.int p1), .val (.int (5 : Int32)), .val (.int (3 : Int32)), .val (.ref wORDINARY), .val .null, .val (.int (0 : Int32))] [.null, (.ref wORDINARY)])) t → Steps p.tables e below (s₁.setTop (entryFrame m #[(.int p0), (.int p1)] maxLocals)) t := fun t kt => k192 t (by
        show Steps p.tables e below (T189.setTop (mkF m 22 #[.val (.int p0), .val (.int p1), .val (.int (5 : Int32)), .val (.int (3 : Int32)), .val (.ref wORDINARY), .unset, .unset] [(.int (3 : Int32))])) _
        refine st191 _ ?_
        show Steps p.tables e below (T191.setTop (mkF m 25 #[.val (.int p0), .val (.int p1), .val (.int (5 : Int32)), .val (.int (3 : Int32)), .val (.ref wORDINARY), .unset, .unset] [.null])) _
        refine XS.astore X191.here hx rfl (hb hby at_25) rfl rfl (l' := #[.val (.int p0), .val (.int p1), .val (.int (5 : Int32)), .val (.int (3 : Int32)), .val (.ref wORDINARY), .val .null, .unset]) rfl ?_
        show Steps p.tables e below (T191.setTop (mkF m 27 #[.val (.int p0), .val (.int p1), .val (.int (5 : Int32)), .val (.int (3 : Int32)), .val (.ref wORDINARY), .val .null, .unset] [])) _
        refine XS.iloadN X191.here hx rfl (hb hby at_27) rfl ?_
        show Steps p.tables e below (T191.setTop (mkF m 28 #[.val (.int p0), .val (.int p1), .val (.int (5 : Int32)), .val (.int (3 : Int32)), .val (.ref wORDINARY), .val .null, .unset] [(.int (5 : Int32))])) _
        refine XS.ifYes X191.here hx rfl (pc0 := 28) (pc' := 35) rfl (hb hby at_28) rfl ((if0 _ _).trans (feq ((by decide) : ¬ ((5 : Int32) = (0 : Int32)))).2) (by decide) (by decide) ?_
        show Steps p.tables e below (T191.setTop (mkF m 35 #[.val (.int p0), .val (.int p1), .val (.int (5 : Int32)), .val (.int (3 : Int32)), .val (.ref wORDINARY), .val .null, .unset] [])) _
        refine XS.iloadN X191.here hx rfl (hb hby at_35) rfl ?_
        show Steps p.tables e below (T191.setTop (mkF m 36 #[.val (.int p0), .val (.int p1), .val (.int (5 : Int32)), .val (.int (3 : Int32)), .val (.ref wORDINARY), .val .null, .unset] [(.int (5 : Int32))])) _
        refine XS.iconst X191.here hx rfl (hb hby at_36) ?_
        show Steps p.tables e below (T191.setTop (mkF m 37 #[.val (.int p0), .val (.int p1), .val (.int (5 : Int32)), .val (.int (3 : Int32)), .val (.ref wORDINARY), .val .null, .unset] [(.int (3 : Int32)), (.int (5 : Int32))])) _
        refine XS.icmpYes X191.here hx rfl (pc0 := 37) (pc' := 45) rfl (hb hby at_37) rfl (feq ((by decide) : ¬ ((5 : Int32) = (3 : Int32)))).2 (by decide) (by decide) ?_
        show Steps p.tables e below (T191.setTop (mkF m 45 #[.val (.int p0), .val (.int p1), .val (.int (5 : Int32)), .val (.int (3 : Int32)), .val (.ref wORDINARY), .val .null, .unset] [])) _
        refine XS.iloadN X191.here hx rfl (hb hby at_45) rfl ?_
        show Steps p.tables e below (T191.setTop (mkF m 46 #[.val (.int p0), .val (.int p1), .val (.int (5 : Int32)), .val (.int (3 : Int32)), .val (.ref wORDINARY), .val .null, .unset] [(.int (5 : Int32))])) _
        refine XS.iconst X191.here hx rfl (hb hby at_46) ?_
        show Steps p.tables e below (T191.setTop (mkF m 47 #[.val (.int p0), .val (.int p1), .val (.int (5 : Int32)), .val (.int (3 : Int32)), .val (.ref wORDINARY), .val .null, .unset] [(.int (4 : Int32)), (.int (5 : Int32))])) _
        refine XS.icmpYes X191.here hx rfl (pc0 := 47) (pc' := 59) rfl (hb hby at_47) rfl (feq ((by decide) : ¬ ((5 : Int32) = (4 : Int32)))).2 (by decide) (by decide) ?_
        show Steps p.tables e below (T191.setTop (mkF m 59 #[.val (.int p0), .val (.int p1), .val (.int (5 : Int32)), .val (.int (3 : Int32)), .val (.ref wORDINARY), .val .null, .unset] [])) _
        refine XS.iconst X191.here hx rfl (hb hby at_59) ?_
        show Steps p.tables e below (T191.setTop (mkF m 60 #[.val (.int p0), .val (.int p1), .val (.int (5 : Int32)), .val (.int (3 : Int32)), .val (.ref wORDINARY), .val .null, .unset] [(.int (0 : Int32))])) _
        refine XS.istore X191.here hx rfl (hb hby at_60) rfl (l' := #[.val (.int p0), .val (.int p1), .val (.int (5 : Int32)), .val (.int (3 : Int32)), .val (.ref wORDINARY), .val .null, .val (.int (0 : Int32))]) rfl ?_
        show Steps p.tables e below (T191.setTop (mkF m 62 #[.val (.int p0), .val (.int p1), .val (.int (5 : Int32)), .val (.int (3 : Int32)), .val (.ref wORDINARY), .val .null, .val (.int (0 : Int32))] [])) _
        refine XS.aload X191.here hx rfl (hb hby at_62) rfl rfl ?_
        show Steps p.tables e below (T191.setTop (mkF m 64 #[.val (.int p0), .val (.int p1), .val (.int (5 : Int32)), .val (.int (3 : Int32)), .val (.ref wORDINARY), .val .null, .val (.int (0 : Int32))] [(.ref wORDINARY)])) _
        refine XS.aload X191.here hx rfl (hb hby at_64) rfl rfl ?_
        exact kt)
      rw [((by rw [f5]) : (f5 wORDINARY wCARD_ERROR wPARTIAL wBALANCE wCREATE wPAYMENT_ERROR wLOAD wNO_TOPUP wORDINARY wBALANCE_ERROR) = (0 : Int32))] at hQ193
      obtain ⟨rfl, N193q, e193⟩ := hQ193
      have N193 := Fr.app N191 N193q
      obtain ⟨fs, hr, hrun, hended, hW, hsame⟩ := X193.leave (v := some (.int (1 : Int32))) (fun h => by rw [Bd.returns] at h; cases h)
      refine ⟨_, _, k194 _ ?_, hrun, hended, _, _, rfl, ?_, ⟨_, rfl⟩, hW, hsame.mono (by decide) (by decide)⟩
      · show Steps p.tables e below (T191.setTop (mkF m 66 #[.val (.int p0), .val (.int p1), .val (.int (5 : Int32)), .val (.int (3 : Int32)), .val (.ref wORDINARY), .val .null, .val (.int (0 : Int32))] [.null, (.ref wORDINARY)])) _
        refine st193.trans ?_
        show Steps p.tables e below (T193.setTop (mkF m 69 #[.val (.int p0), .val (.int p1), .val (.int (5 : Int32)), .val (.int (3 : Int32)), .val (.ref wORDINARY), .val .null, .val (.int (0 : Int32))] [(.int (0 : Int32))])) _
        refine XS.iload X193.here hx rfl (hb hby at_69) rfl ?_
        show Steps p.tables e below (T193.setTop (mkF m 71 #[.val (.int p0), .val (.int p1), .val (.int (5 : Int32)), .val (.int (3 : Int32)), .val (.ref wORDINARY), .val .null, .val (.int (0 : Int32))] [(.int (0 : Int32)), (.int (0 : Int32))])) _
        refine XS.icmpNo X193.here hx rfl (hb hby at_71) rfl (teq (rfl : (0 : Int32) = (0 : Int32))).2 ?_
        show Steps p.tables e below (T193.setTop (mkF m 74 #[.val (.int p0), .val (.int p1), .val (.int (5 : Int32)), .val (.int (3 : Int32)), .val (.ref wORDINARY), .val .null, .val (.int (0 : Int32))] [])) _
        refine XS.iconst X193.here hx rfl (hb hby at_74) ?_
        show Steps p.tables e below (T193.setTop (mkF m 75 #[.val (.int p0), .val (.int p1), .val (.int (5 : Int32)), .val (.int (3 : Int32)), .val (.ref wORDINARY), .val .null, .val (.int (0 : Int32))] [(.int (1 : Int32))])) _
        refine XS.goto X193.here hx rfl (pc0 := 75) (pc' := 79) rfl (hb hby at_75) (by decide) (by decide) ?_
        show Steps p.tables e below (T193.setTop (mkF m 79 #[.val (.int p0), .val (.int p1), .val (.int (5 : Int32)), .val (.int (3 : Int32)), .val (.ref wORDINARY), .val .null, .val (.int (0 : Int32))] [(.int (1 : Int32))])) _
        exact retN X193 hx (t := .boolean) Bd.returns (by simp) (hb hby at_79) hr
      · show Q0 Z p0 p1 wCARD_ERROR wPARTIAL wBALANCE wCREATE wPAYMENT_ERROR wLOAD wNO_TOPUP wORDINARY wBALANCE_ERROR h0 n0 _ T193.heap _
        rw [e193]
        exact ⟨rfl, N193⟩
set_option maxRecDepth 65536 in
set_option maxHeartbeats 40000000 in
theorem comes_1 {Post : Tables → Env → Array Value → State → Outcome → State → Prop} (hpost : ∀ tb e args s v u, (limb_1_1.after args s (.returned v) u = true ∧ limb_1_2.after args s (.returned v) u = true ∧ True) → FrameEnd s (.returned v) u (Jvm.fieldLocs frame_1_writes args s ++ Jvm.arrayLocs frame_1_arrays args s ++ Jvm.staticLocs frame_1_statics s) 0 0 → Post tb e args s (.returned v) u) :
    ArmFor flags0 classFile x code maxLocals ret World_1 tables_1 room_1 Calls_1 rest_1 Pre_1 Post := by
  intro l hfl _ _ p e ha hc hk s m args below hf hA hF happ hP
  obtain ⟨hcalls, hrest, hpre⟩ := hP
  obtain ⟨-, -, -, hnamed, -, -, -, hat⟩ := (Spec.applies_iff hf).mp happ
  obtain ⟨hg, hn⟩ := and_e (Cond.before_iff.mp (show (Jvm.Cond.and given_1 narrow_1).before args s = true from hpre))
  obtain ⟨gc, gr0⟩ := and_e hg
  obtain ⟨ga0, ga1⟩ := and_e gr0
  obtain ⟨w0, w1, rfl⟩ : ∃ w0 w1 : Value, args = #[w0, w1] := by
    have hs : args.size = 2 := by simpa [Cond.value, given_1] using gc
    obtain ⟨L⟩ := args
    match L, hs with
    | [w0, w1], _ => exact ⟨w0, w1, rfl⟩
  have hw := fun d (hd : d ∈ tables_1) => atoms_spec (ws := Jvm.Cond.code x code maxLocals ret :: tables_1) hat d (List.mem_cons_of_mem _ hd)
  have hfit : Fit s := fun {y c} hc i hi => by
    obtain ⟨ha, rfl⟩ := Array.getElem?_eq_some_iff.mp hc
    have q := List.all_eq_true.mp ((Array.all_eq_true_iff_forall_mem.mp hF) _ (Array.getElem_mem ha)) i (List.mem_range.mpr hi)
    simpa [Array.getElem?_eq_getElem hi] using q
  obtain ⟨i0, ei0⟩ := is_v ga0
  obtain rfl : w0 = (.int i0) := Option.some.inj ei0
  obtain ⟨i1, ei1⟩ := is_v ga1
  obtain rfl : w1 = (.int i1) := Option.some.inj ei1
  obtain ⟨nr0, hn0⟩ := and_e hn
  obtain ⟨nr1, hn1⟩ := and_e hn0
  obtain ⟨nr2, hn2⟩ := and_e hn1
  obtain ⟨nr3, hn3⟩ := and_e hn2
  obtain ⟨nr4, hn4⟩ := and_e hn3
  obtain ⟨nr5, hn5⟩ := and_e hn4
  obtain ⟨nr6, hn6⟩ := and_e hn5
  obtain ⟨nr7, hn7⟩ := and_e hn6
  obtain ⟨nr8, hn8⟩ := and_e hn7
  obtain ⟨nr9, hn9⟩ := and_e hn8
  obtain ⟨nr10, hn10⟩ := and_e hn9
  obtain ⟨nr11, hn11⟩ := and_e hn10
  obtain ⟨nr12, hn12⟩ := and_e hn11
  obtain ⟨nr13, hn13⟩ := and_e hn12
  obtain ⟨nr14, hn14⟩ := and_e hn13
  obtain ⟨nr15, hn15⟩ := and_e hn14
  obtain ⟨nr16, nr17⟩ := and_e hn15
  obtain ⟨wCARD_ERROR, evwCARD_ERROR⟩ := exa_v nr0
  have SCARD_ERROR : Sta s s.heap "com/example/cardstand/cardstand/scenario/CardScenario" "CARD_ERROR" "Lcom/example/cardstand/cardstand/scenario/CardScenario;" (.ref wCARD_ERROR) := Sta.start evwCARD_ERROR (Or.inr ⟨(hw _ (List.mem_of_getElem? (i := 6) rfl)), (hw _ (List.mem_of_getElem? (i := 7) rfl))⟩)
  obtain ⟨wPARTIAL, evwPARTIAL⟩ := exa_v nr1
  have SPARTIAL : Sta s s.heap "com/example/cardstand/cardstand/scenario/CardScenario" "PARTIAL" "Lcom/example/cardstand/cardstand/scenario/CardScenario;" (.ref wPARTIAL) := Sta.start evwPARTIAL (Or.inr ⟨(hw _ (List.mem_of_getElem? (i := 6) rfl)), (hw _ (List.mem_of_getElem? (i := 17) rfl))⟩)
  obtain ⟨wBALANCE, evwBALANCE⟩ := exa_v nr2
  have SBALANCE : Sta s s.heap "com/example/cardstand/cardstand/scenario/CardScenario$Operation" "BALANCE" "Lcom/example/cardstand/cardstand/scenario/CardScenario$Operation;" (.ref wBALANCE) := Sta.start evwBALANCE (Or.inr ⟨(hw _ (List.mem_of_getElem? (i := 19) rfl)), (hw _ (List.mem_of_getElem? (i := 20) rfl))⟩)
  obtain ⟨wCREATE, evwCREATE⟩ := exa_v nr4
  have SCREATE : Sta s s.heap "com/example/cardstand/cardstand/scenario/CardScenario$Operation" "CREATE" "Lcom/example/cardstand/cardstand/scenario/CardScenario$Operation;" (.ref wCREATE) := Sta.start evwCREATE (Or.inr ⟨(hw _ (List.mem_of_getElem? (i := 19) rfl)), (hw _ (List.mem_of_getElem? (i := 24) rfl))⟩)
  obtain ⟨wPAYMENT_ERROR, evwPAYMENT_ERROR⟩ := exa_v nr5
  have SPAYMENT_ERROR : Sta s s.heap "com/example/cardstand/cardstand/scenario/CardScenario" "PAYMENT_ERROR" "Lcom/example/cardstand/cardstand/scenario/CardScenario;" (.ref wPAYMENT_ERROR) := Sta.start evwPAYMENT_ERROR (Or.inr ⟨(hw _ (List.mem_of_getElem? (i := 6) rfl)), (hw _ (List.mem_of_getElem? (i := 26) rfl))⟩)
  obtain ⟨wLOAD, evwLOAD⟩ := exa_v nr6
  have SLOAD : Sta s s.heap "com/example/cardstand/cardstand/scenario/CardScenario$Operation" "LOAD" "Lcom/example/cardstand/cardstand/scenario/CardScenario$Operation;" (.ref wLOAD) := Sta.start evwLOAD (Or.inr ⟨(hw _ (List.mem_of_getElem? (i := 19) rfl)), (hw _ (List.mem_of_getElem? (i := 27) rfl))⟩)
  obtain ⟨wNO_TOPUP, evwNO_TOPUP⟩ := exa_v nr10
  have SNO_TOPUP : Sta s s.heap "com/example/cardstand/cardstand/scenario/CardScenario" "NO_TOPUP" "Lcom/example/cardstand/cardstand/scenario/CardScenario;" (.ref wNO_TOPUP) := Sta.start evwNO_TOPUP (Or.inr ⟨(hw _ (List.mem_of_getElem? (i := 6) rfl)), (hw _ (List.mem_of_getElem? (i := 29) rfl))⟩)
  obtain ⟨wORDINARY, evwORDINARY⟩ := exa_v nr14
  have SORDINARY : Sta s s.heap "com/example/cardstand/cardstand/scenario/CardScenario" "ORDINARY" "Lcom/example/cardstand/cardstand/scenario/CardScenario;" (.ref wORDINARY) := Sta.start evwORDINARY (Or.inr ⟨(hw _ (List.mem_of_getElem? (i := 6) rfl)), (hw _ (List.mem_of_getElem? (i := 31) rfl))⟩)
  obtain ⟨wBALANCE_ERROR, evwBALANCE_ERROR⟩ := exa_v nr16
  have SBALANCE_ERROR : Sta s s.heap "com/example/cardstand/cardstand/scenario/CardScenario" "BALANCE_ERROR" "Lcom/example/cardstand/cardstand/scenario/CardScenario;" (.ref wBALANCE_ERROR) := Sta.start evwBALANCE_ERROR (Or.inr ⟨(hw _ (List.mem_of_getElem? (i := 6) rfl)), (hw _ (List.mem_of_getElem? (i := 34) rfl))⟩)
  have ECARD_ERROR : Exa s s.heap wCARD_ERROR "com/example/cardstand/cardstand/scenario/CardScenario" := Exa.start evwCARD_ERROR nr0
  have EPARTIAL : Exa s s.heap wPARTIAL "com/example/cardstand/cardstand/scenario/CardScenario" := Exa.start evwPARTIAL nr1
  have EBALANCE : Exa s s.heap wBALANCE "com/example/cardstand/cardstand/scenario/CardScenario$Operation" := Exa.start evwBALANCE nr2
  have FPARTIAL_failing : Fld s s.heap wPARTIAL "com/example/cardstand/cardstand/scenario/CardScenario" "failing" "Lcom/example/cardstand/cardstand/scenario/CardScenario$Operation;" .null := own_fldN evwPARTIAL nr3
  have ECREATE : Exa s s.heap wCREATE "com/example/cardstand/cardstand/scenario/CardScenario$Operation" := Exa.start evwCREATE nr4
  have EPAYMENT_ERROR : Exa s s.heap wPAYMENT_ERROR "com/example/cardstand/cardstand/scenario/CardScenario" := Exa.start evwPAYMENT_ERROR nr5
  have ELOAD : Exa s s.heap wLOAD "com/example/cardstand/cardstand/scenario/CardScenario$Operation" := Exa.start evwLOAD nr6
  have FPAYMENT_ERROR_failing : Fld s s.heap wPAYMENT_ERROR "com/example/cardstand/cardstand/scenario/CardScenario" "failing" "Lcom/example/cardstand/cardstand/scenario/CardScenario$Operation;" (.ref wLOAD) := own_fldR evwPAYMENT_ERROR evwLOAD nr7
  have FCREATE_ordinal : Fld s s.heap wCREATE "java/lang/Enum" "ordinal" "I" (.int (0 : Int32)) := own_fldI evwCREATE nr8
  have FLOAD_ordinal : Fld s s.heap wLOAD "java/lang/Enum" "ordinal" "I" (.int (2 : Int32)) := own_fldI evwLOAD nr9
  have ENO_TOPUP : Exa s s.heap wNO_TOPUP "com/example/cardstand/cardstand/scenario/CardScenario" := Exa.start evwNO_TOPUP nr10
  have FNO_TOPUP_failing : Fld s s.heap wNO_TOPUP "com/example/cardstand/cardstand/scenario/CardScenario" "failing" "Lcom/example/cardstand/cardstand/scenario/CardScenario$Operation;" .null := own_fldN evwNO_TOPUP nr11
  have FCARD_ERROR_failing : Fld s s.heap wCARD_ERROR "com/example/cardstand/cardstand/scenario/CardScenario" "failing" "Lcom/example/cardstand/cardstand/scenario/CardScenario$Operation;" (.ref wCREATE) := own_fldR evwCARD_ERROR evwCREATE nr12
  have FBALANCE_ordinal : Fld s s.heap wBALANCE "java/lang/Enum" "ordinal" "I" (.int (1 : Int32)) := own_fldI evwBALANCE nr13
  have EORDINARY : Exa s s.heap wORDINARY "com/example/cardstand/cardstand/scenario/CardScenario" := Exa.start evwORDINARY nr14
  have FORDINARY_failing : Fld s s.heap wORDINARY "com/example/cardstand/cardstand/scenario/CardScenario" "failing" "Lcom/example/cardstand/cardstand/scenario/CardScenario$Operation;" .null := own_fldN evwORDINARY nr15
  have EBALANCE_ERROR : Exa s s.heap wBALANCE_ERROR "com/example/cardstand/cardstand/scenario/CardScenario" := Exa.start evwBALANCE_ERROR nr16
  have FBALANCE_ERROR_failing : Fld s s.heap wBALANCE_ERROR "com/example/cardstand/cardstand/scenario/CardScenario" "failing" "Lcom/example/cardstand/cardstand/scenario/CardScenario$Operation;" (.ref wBALANCE) := own_fldR evwBALANCE_ERROR evwBALANCE nr17
  obtain ⟨n, o, h1, h2, h3, _, L, rfl, ⟨rfl, N⟩, hq⟩ := rm0 l s _ hw tables_1 i0 i1 wCARD_ERROR wPARTIAL wBALANCE wCREATE wPAYMENT_ERROR wLOAD wNO_TOPUP wORDINARY wBALANCE_ERROR s.heap s.heap.size (Nat.le_refl _) ⟨SCARD_ERROR, ECARD_ERROR, SPARTIAL, EPARTIAL, SBALANCE, EBALANCE, FPARTIAL_failing, SCREATE, ECREATE, SPAYMENT_ERROR, EPAYMENT_ERROR, SLOAD, ELOAD, FPAYMENT_ERROR_failing, FCREATE_ordinal, FLOAD_ordinal, SNO_TOPUP, ENO_TOPUP, FNO_TOPUP_failing, FCARD_ERROR_failing, FBALANCE_ordinal, SORDINARY, EORDINARY, FORDINARY_failing, SBALANCE_ERROR, EBALANCE_ERROR, FBALANCE_ERROR_failing, trivial⟩  p e ha hc hk s m _ below hf ((Spec.applies_iff_loose hf).mp happ).1 ⟨rfl, State.Warmed39.refl s, rfl⟩ trivial
  refine ⟨n, _, h1, h2, h3, hpost _ _ _ _ _ _ ⟨Cond.after_iff.mpr rfl, Cond.after_iff.mpr (eq_i res_at (Term.int_eval (1)) rfl), trivial⟩ ⟨hq.1, hq.2.1, (hq.2.2.sift fun y hy => Or.inr (N y hy)).mono (by decide) (by decide)⟩⟩
theorem main_1_1 : Claimed_1_1 := comes_1 fun _ _ _ _ _ _ h hF => ⟨h.1, hF⟩
theorem main_1_2 : Claimed_1_2 := comes_1 fun _ _ _ _ _ _ h hF => ⟨h.2.1, hF⟩
end Jvm.Pilot.@@N@@
namespace Jvm.Pilot.@@N@@
open Jvm Jvm.ClassFile Sem Op Lib Jvm.Free Jvm.Stand Jvm.Pilot.@@N@@.Jvm.D
/-! MADE BY PROGRAM (witnessworld.py) out of the Statement's table words and the real class files: 14 classes; the members and pool entries that the words name. The judged class is class 1, her method 3. -/
namespace start1
open Jvm.ClassFile
def u (s : String) : CpInfo := .utf8 (stringToUtf16 s)
/-- a pool by its gaps: so many unusable entries, then the entry; so many at the end -/
def gap : Nat → List CpInfo → List CpInfo
  | 0, r => r
  | n + 1, r => .unusable :: gap n r
def poolList (es : List (Nat × CpInfo)) (last : Nat) : List CpInfo := es.foldr (fun e r => gap e.1 (e.2 :: r)) (gap last [])
def pool (es : List (Nat × CpInfo)) (last : Nat) : Array CpInfo := ⟨poolList es last⟩
def fileOf (pool : Array CpInfo) (this : Nat) (attrs : Array Attribute := #[]) (ms : Array MethodInfo := #[]) (fl : Nat := 33) (sup : Nat := 0) (ifs : Array Nat := #[]) (fds : Array FieldInfo := #[]) : ClassFile where
  minorVersion := 0
  majorVersion := 65
  constantPool := pool
  accessFlags := fl
  thisClass := this
  superClass := sup
  interfaces := ifs
  fields := fds
  methods := ms
  attributes := attrs
def plain (name : String) (sup : Option ClassId) : Class where
  name := name
  kind := .ordinary
  loader := none
  accessFlags := 33
  super := sup
  interfaces := #[]
  cf := none
  fields := #[]
  methods := #[]
  instanceTypes := #[]
  staticTypes := #[]
  resolved := #[]
  callSites := []
  init := .initialized
  statics := none
  mirror := none

def pool0 : Array CpInfo := pool [(5, u "<init>"), (0, u "()V"), (1, .class_ 10), (1, u "java/lang/Object")] 113

def k0m0 : Method := { name := "<init>", desc := "()V", sig := { parameters := [], returnType := none }, accessFlags := 1, code := none }
/-- java/lang/Object -/
def k0 : Class := { plain "java/lang/Object" none with
  accessFlags := 33
  interfaces := #[]
  cf := some (fileOf pool0 8 #[] #[{ accessFlags := 1, nameIndex := 5, descriptorIndex := 6, attributes := #[] }] 33 0 #[] #[])
  fields := #[]
  methods := #[k0m0]
  instanceTypes := #[]
  staticTypes := #[]
  resolved := Array.replicate 124 none
  statics := none }

def pool1 : Array CpInfo := pool [(2, .class_ 4), (1, u "java/lang/Object"), (0, u "<init>"), (0, u "()V"), (0, .fieldref 8 9), (0, .class_ 10), (0, .nameAndType 11 12), (0, u "com/example/cardstand/cardstand/scenario/CardScenario"), (0, u "CARD_ERROR"), (0, u "Lcom/example/cardstand/cardstand/scenario/CardScenario;"), (0, .fieldref 8 14), (0, .nameAndType 15 12), (0, u "NO_TOPUP"), (0, .fieldref 8 17), (0, .nameAndType 18 12), (0, u "PARTIAL"), (0, .fieldref 8 20), (0, .nameAndType 21 12), (0, u "BALANCE_ERROR"), (0, .fieldref 8 23), (0, .nameAndType 24 12), (0, u "PAYMENT_ERROR"), (0, .fieldref 8 26), (0, .nameAndType 27 12), (0, u "ORDINARY"), (0, .fieldref 29 30), (0, .class_ 31), (0, .nameAndType 32 33), (0, u "com/example/cardstand/cardstand/scenario/CardScenario$Operation"), (0, u "CREATE"), (0, u "Lcom/example/cardstand/cardstand/scenario/CardScenario$Operation;"), (0, .fieldref 29 35), (0, .nameAndType 36 33), (0, u "BALANCE"), (0, .fieldref 29 38), (0, .nameAndType 39 33), (0, u "LOAD"), (0, .integer 2147483647), (0, .methodref 42 43), (0, .class_ 44), (0, .nameAndType 45 46), (0, u "com/example/cardstand/cardstand/scenario/CardScenarioFailsPinLaw"), (0, u "scenario"), (0, u "(I)Lcom/example/cardstand/cardstand/scenario/CardScenario;"), (0, .methodref 42 48), (0, .nameAndType 49 50), (0, u "operation"), (0, u "(I)Lcom/example/cardstand/cardstand/scenario/CardScenario$Operation;"), (0, .methodref 8 52), (0, .nameAndType 53 54), (0, u "fails"), (0, u "(Lcom/example/cardstand/cardstand/scenario/CardScenario$Operation;)Z"), (3, u "law"), (0, u "(II)Z")] 4

def k1m0 : Method := { name := "<init>", desc := "()V", sig := { parameters := [], returnType := none }, accessFlags := 1, code := none }
def k1c1 : Code := { maxStack := 2, maxLocals := 1, code := method_2_code, exceptionTable := #[], attributes := #[] }
def k1m1 : Method := { name := "scenario", desc := "(I)Lcom/example/cardstand/cardstand/scenario/CardScenario;", sig := { parameters := [.int], returnType := some (.object "com/example/cardstand/cardstand/scenario/CardScenario") }, accessFlags := 10, code := some k1c1 }
def k1c2 : Code := { maxStack := 2, maxLocals := 1, code := method_3_code, exceptionTable := #[], attributes := #[] }
def k1m2 : Method := { name := "operation", desc := "(I)Lcom/example/cardstand/cardstand/scenario/CardScenario$Operation;", sig := { parameters := [.int], returnType := some (.object "com/example/cardstand/cardstand/scenario/CardScenario$Operation") }, accessFlags := 10, code := some k1c2 }
def k1c3 : Code := { maxStack := 2, maxLocals := 7, code := code, exceptionTable := #[], attributes := #[] }
def k1m3 : Method := { name := "law", desc := "(II)Z", sig := { parameters := [.int, .int], returnType := some .boolean }, accessFlags := 9, code := some k1c3 }
/-- com/example/cardstand/cardstand/scenario/CardScenarioFailsPinLaw -/
def k1 : Class := { plain "com/example/cardstand/cardstand/scenario/CardScenarioFailsPinLaw" (some 0) with
  accessFlags := 49
  interfaces := #[]
  cf := some (fileOf pool1 42 #[] #[{ accessFlags := 1, nameIndex := 5, descriptorIndex := 6, attributes := #[] }, { accessFlags := 10, nameIndex := 45, descriptorIndex := 46, attributes := #[] }, { accessFlags := 10, nameIndex := 49, descriptorIndex := 50, attributes := #[] }, { accessFlags := 9, nameIndex := 58, descriptorIndex := 59, attributes := #[] }] 49 2 #[] #[])
  fields := #[]
  methods := #[k1m0, k1m1, k1m2, k1m3]
  instanceTypes := #[]
  staticTypes := #[]
  resolved := Array.replicate 64 none
  statics := none }

def pool2 : Array CpInfo := pool [(1, .class_ 2), (0, u "java/lang/constant/Constable"), (0, .class_ 4), (0, u "java/lang/Object")] 6

/-- java/lang/constant/Constable -/
def k2 : Class := { plain "java/lang/constant/Constable" (some 0) with
  accessFlags := 1537
  interfaces := #[]
  cf := some (fileOf pool2 1 #[] #[] 1537 3 #[] #[])
  fields := #[]
  methods := #[]
  instanceTypes := #[]
  staticTypes := #[]
  resolved := Array.replicate 11 none
  statics := none }

def pool3 : Array CpInfo := pool [(1, .class_ 2), (0, u "java/lang/Comparable"), (0, .class_ 4), (0, u "java/lang/Object")] 7

/-- java/lang/Comparable -/
def k3 : Class := { plain "java/lang/Comparable" (some 0) with
  accessFlags := 1537
  interfaces := #[]
  cf := some (fileOf pool3 1 #[] #[] 1537 3 #[] #[])
  fields := #[]
  methods := #[]
  instanceTypes := #[]
  staticTypes := #[]
  resolved := Array.replicate 12 none
  statics := none }

def pool4 : Array CpInfo := pool [(1, .class_ 2), (0, u "java/io/Serializable"), (0, .class_ 4), (0, u "java/lang/Object")] 2

/-- java/io/Serializable -/
def k4 : Class := { plain "java/io/Serializable" (some 0) with
  accessFlags := 1537
  interfaces := #[]
  cf := some (fileOf pool4 1 #[] #[] 1537 3 #[] #[])
  fields := #[]
  methods := #[]
  instanceTypes := #[]
  staticTypes := #[]
  resolved := Array.replicate 7 none
  statics := none }

def pool5 : Array CpInfo := pool [(2, .class_ 4), (1, u "java/lang/Enum"), (0, u "name"), (0, u "Ljava/lang/String;"), (2, u "ordinal"), (0, u "I"), (1, .class_ 14), (1, u "java/lang/Object"), (4, u "hash"), (86, .class_ 108), (1, u "java/lang/Enum$EnumDesc"), (2, .class_ 112), (0, u "java/lang/constant/Constable"), (0, .class_ 114), (0, u "java/lang/Comparable"), (0, .class_ 116), (0, u "java/io/Serializable")] 87

/-- java/lang/Enum -/
def k5 : Class := { plain "java/lang/Enum" (some 0) with
  accessFlags := 1057
  interfaces := #[2, 3, 4]
  cf := some (fileOf pool5 2 #[.nestMembers #[106]] #[] 1057 12 #[111, 113, 115] #[{ accessFlags := 18, nameIndex := 5, descriptorIndex := 6, attributes := #[] }, { accessFlags := 18, nameIndex := 9, descriptorIndex := 10, attributes := #[] }, { accessFlags := 2, nameIndex := 19, descriptorIndex := 10, attributes := #[] }])
  fields := #[{ name := "name", type := (.object "java/lang/String"), accessFlags := 18, slot := 0, constantValue := 0 }, { name := "ordinal", type := .int, accessFlags := 18, slot := 1, constantValue := 0 }, { name := "hash", type := .int, accessFlags := 2, slot := 2, constantValue := 0 }]
  methods := #[]
  instanceTypes := #[(.object "java/lang/String"), .int, .int]
  staticTypes := #[]
  resolved := Array.replicate 204 none
  statics := none }

def pool6 : Array CpInfo := pool [(37, .class_ 38), (0, u "com/example/cardstand/cardstand/scenario/Scenario"), (0, .class_ 40), (0, u "java/lang/Object")] 35

/-- com/example/cardstand/cardstand/scenario/Scenario -/
def k6 : Class := { plain "com/example/cardstand/cardstand/scenario/Scenario" (some 0) with
  accessFlags := 1537
  interfaces := #[]
  cf := some (fileOf pool6 37 #[] #[] 1537 39 #[] #[])
  fields := #[]
  methods := #[]
  instanceTypes := #[]
  staticTypes := #[]
  resolved := Array.replicate 76 none
  statics := none }

def pool7 : Array CpInfo := pool [(1, .class_ 2), (0, u "com/example/cardstand/cardstand/scenario/CardScenario"), (2, u "CARD_ERROR"), (0, u "Lcom/example/cardstand/cardstand/scenario/CardScenario;"), (2, u "NO_TOPUP"), (2, u "PARTIAL"), (2, u "BALANCE_ERROR"), (2, u "PAYMENT_ERROR"), (2, u "ORDINARY"), (2, u "$VALUES"), (0, u "[Lcom/example/cardstand/cardstand/scenario/CardScenario;"), (6, .class_ 34), (1, u "java/lang/Enum"), (8, u "firstName"), (0, u "Ljava/lang/String;"), (2, u "prefix"), (0, u "I"), (2, u "lowestOpeningBalance"), (2, u "highestOpeningBalance"), (0, .fieldref 1 56), (0, .nameAndType 57 58), (0, u "failing"), (0, u "Lcom/example/cardstand/cardstand/scenario/CardScenario$Operation;"), (9, .class_ 70), (1, u "com/example/cardstand/cardstand/scenario/CardScenario$Operation"), (3, u "fails"), (0, u "(Lcom/example/cardstand/cardstand/scenario/CardScenario$Operation;)Z"), (81, .class_ 158), (0, u "com/example/cardstand/cardstand/scenario/Scenario"), (0, u "FAILURE_STATUS"), (2, u "DIALECT")] 44

def k7c0 : Code := { maxStack := 2, maxLocals := 2, code := prog_33_method_9_code, exceptionTable := #[], attributes := #[] }
def k7m0 : Method := { name := "fails", desc := "(Lcom/example/cardstand/cardstand/scenario/CardScenario$Operation;)Z", sig := { parameters := [(.object "com/example/cardstand/cardstand/scenario/CardScenario$Operation")], returnType := some .boolean }, accessFlags := 1, code := some k7c0 }
/-- com/example/cardstand/cardstand/scenario/CardScenario -/
def k7 : Class := { plain "com/example/cardstand/cardstand/scenario/CardScenario" (some 5) with
  accessFlags := 16433
  interfaces := #[6]
  cf := some (fileOf pool7 1 #[.nestMembers #[68]] #[{ accessFlags := 1, nameIndex := 74, descriptorIndex := 75, attributes := #[] }] 16433 32 #[157] #[{ accessFlags := 16409, nameIndex := 5, descriptorIndex := 6, attributes := #[] }, { accessFlags := 16409, nameIndex := 9, descriptorIndex := 6, attributes := #[] }, { accessFlags := 16409, nameIndex := 12, descriptorIndex := 6, attributes := #[] }, { accessFlags := 16409, nameIndex := 15, descriptorIndex := 6, attributes := #[] }, { accessFlags := 16409, nameIndex := 18, descriptorIndex := 6, attributes := #[] }, { accessFlags := 16409, nameIndex := 21, descriptorIndex := 6, attributes := #[] }, { accessFlags := 25, nameIndex := 159, descriptorIndex := 48, attributes := #[] }, { accessFlags := 26, nameIndex := 162, descriptorIndex := 44, attributes := #[] }, { accessFlags := 18, nameIndex := 43, descriptorIndex := 44, attributes := #[] }, { accessFlags := 18, nameIndex := 47, descriptorIndex := 48, attributes := #[] }, { accessFlags := 18, nameIndex := 51, descriptorIndex := 48, attributes := #[] }, { accessFlags := 18, nameIndex := 54, descriptorIndex := 48, attributes := #[] }, { accessFlags := 18, nameIndex := 57, descriptorIndex := 58, attributes := #[] }, { accessFlags := 4122, nameIndex := 24, descriptorIndex := 25, attributes := #[] }])
  fields := #[{ name := "CARD_ERROR", type := (.object "com/example/cardstand/cardstand/scenario/CardScenario"), accessFlags := 16409, slot := 0, constantValue := 0 }, { name := "NO_TOPUP", type := (.object "com/example/cardstand/cardstand/scenario/CardScenario"), accessFlags := 16409, slot := 1, constantValue := 0 }, { name := "PARTIAL", type := (.object "com/example/cardstand/cardstand/scenario/CardScenario"), accessFlags := 16409, slot := 2, constantValue := 0 }, { name := "BALANCE_ERROR", type := (.object "com/example/cardstand/cardstand/scenario/CardScenario"), accessFlags := 16409, slot := 3, constantValue := 0 }, { name := "PAYMENT_ERROR", type := (.object "com/example/cardstand/cardstand/scenario/CardScenario"), accessFlags := 16409, slot := 4, constantValue := 0 }, { name := "ORDINARY", type := (.object "com/example/cardstand/cardstand/scenario/CardScenario"), accessFlags := 16409, slot := 5, constantValue := 0 }, { name := "FAILURE_STATUS", type := .int, accessFlags := 25, slot := 6, constantValue := 0 }, { name := "DIALECT", type := (.object "java/lang/String"), accessFlags := 26, slot := 7, constantValue := 0 }, { name := "firstName", type := (.object "java/lang/String"), accessFlags := 18, slot := 3, constantValue := 0 }, { name := "prefix", type := .int, accessFlags := 18, slot := 4, constantValue := 0 }, { name := "lowestOpeningBalance", type := .int, accessFlags := 18, slot := 5, constantValue := 0 }, { name := "highestOpeningBalance", type := .int, accessFlags := 18, slot := 6, constantValue := 0 }, { name := "failing", type := (.object "com/example/cardstand/cardstand/scenario/CardScenario$Operation"), accessFlags := 18, slot := 7, constantValue := 0 }, { name := "$VALUES", type := (.array (.object "com/example/cardstand/cardstand/scenario/CardScenario")), accessFlags := 4122, slot := 8, constantValue := 0 }]
  methods := #[k7m0]
  instanceTypes := #[(.object "java/lang/String"), .int, .int, (.object "java/lang/String"), .int, .int, .int, (.object "com/example/cardstand/cardstand/scenario/CardScenario$Operation")]
  staticTypes := #[(.object "com/example/cardstand/cardstand/scenario/CardScenario"), (.object "com/example/cardstand/cardstand/scenario/CardScenario"), (.object "com/example/cardstand/cardstand/scenario/CardScenario"), (.object "com/example/cardstand/cardstand/scenario/CardScenario"), (.object "com/example/cardstand/cardstand/scenario/CardScenario"), (.object "com/example/cardstand/cardstand/scenario/CardScenario"), .int, (.object "java/lang/String"), (.array (.object "com/example/cardstand/cardstand/scenario/CardScenario"))]
  resolved := Array.replicate 207 none
  statics := some 0 }

def pool8 : Array CpInfo := pool [(1, .class_ 2), (0, u "com/example/cardstand/cardstand/scenario/CardScenario"), (0, .class_ 4), (0, u "com/example/cardstand/cardstand/scenario/CardScenario$Operation"), (2, u "CREATE"), (0, u "Lcom/example/cardstand/cardstand/scenario/CardScenario$Operation;"), (2, u "BALANCE"), (2, u "LOAD"), (2, u "$VALUES"), (0, u "[Lcom/example/cardstand/cardstand/scenario/CardScenario$Operation;"), (6, .class_ 27), (1, u "java/lang/Enum"), (8, u "answers"), (0, u "Ljava/lang/String;"), (2, u "failureCode")] 57

/-- com/example/cardstand/cardstand/scenario/CardScenario$Operation -/
def k8 : Class := { plain "com/example/cardstand/cardstand/scenario/CardScenario$Operation" (some 5) with
  accessFlags := 16433
  interfaces := #[]
  cf := some (fileOf pool8 3 #[.nestHost 1] #[] 16433 25 #[] #[{ accessFlags := 16409, nameIndex := 7, descriptorIndex := 8, attributes := #[] }, { accessFlags := 16409, nameIndex := 11, descriptorIndex := 8, attributes := #[] }, { accessFlags := 16409, nameIndex := 14, descriptorIndex := 8, attributes := #[] }, { accessFlags := 18, nameIndex := 36, descriptorIndex := 37, attributes := #[] }, { accessFlags := 18, nameIndex := 40, descriptorIndex := 37, attributes := #[] }, { accessFlags := 4122, nameIndex := 17, descriptorIndex := 18, attributes := #[] }])
  fields := #[{ name := "CREATE", type := (.object "com/example/cardstand/cardstand/scenario/CardScenario$Operation"), accessFlags := 16409, slot := 0, constantValue := 0 }, { name := "BALANCE", type := (.object "com/example/cardstand/cardstand/scenario/CardScenario$Operation"), accessFlags := 16409, slot := 1, constantValue := 0 }, { name := "LOAD", type := (.object "com/example/cardstand/cardstand/scenario/CardScenario$Operation"), accessFlags := 16409, slot := 2, constantValue := 0 }, { name := "answers", type := (.object "java/lang/String"), accessFlags := 18, slot := 3, constantValue := 0 }, { name := "failureCode", type := (.object "java/lang/String"), accessFlags := 18, slot := 4, constantValue := 0 }, { name := "$VALUES", type := (.array (.object "com/example/cardstand/cardstand/scenario/CardScenario$Operation")), accessFlags := 4122, slot := 3, constantValue := 0 }]
  methods := #[]
  instanceTypes := #[(.object "java/lang/String"), .int, .int, (.object "java/lang/String"), (.object "java/lang/String")]
  staticTypes := #[(.object "com/example/cardstand/cardstand/scenario/CardScenario$Operation"), (.object "com/example/cardstand/cardstand/scenario/CardScenario$Operation"), (.object "com/example/cardstand/cardstand/scenario/CardScenario$Operation"), (.array (.object "com/example/cardstand/cardstand/scenario/CardScenario$Operation"))]
  resolved := Array.replicate 98 none
  statics := some 1 }

def pool9 : Array CpInfo := pool [(1, u "java/lang/Cloneable"), (0, .class_ 1), (0, u "java/lang/Object"), (0, .class_ 3)] 3

/-- java/lang/Cloneable -/
def k9 : Class := { plain "java/lang/Cloneable" (some 0) with
  accessFlags := 1537
  interfaces := #[]
  cf := some (fileOf pool9 2 #[] #[] 1537 4 #[] #[])
  fields := #[]
  methods := #[]
  instanceTypes := #[]
  staticTypes := #[]
  resolved := Array.replicate 8 none
  statics := none }

/-- the primitive byte -/
def k10 : Class := { plain "byte" none with kind := .primitive 'B', accessFlags := 0x411 }
/-- [B -/
def k11 : Class := { plain "[B" (some 0) with kind := .array 10 .byte, interfaces := #[9, 4], accessFlags := 1041 }

/-- the primitive int -/
def k12 : Class := { plain "int" none with kind := .primitive 'I', accessFlags := 0x411 }
/-- [I -/
def k13 : Class := { plain "[I" (some 0) with kind := .array 12 .int, interfaces := #[9, 4], accessFlags := 1041 }

def heap : Heap := #[{ cls := 7, slots := #[.ref 2, .ref 8, .ref 3, .ref 10, .ref 6, .ref 9, .int 0, .null, .null], vm := .statics 7 },
  { cls := 8, slots := #[.ref 5, .ref 4, .ref 7, .null], vm := .statics 8 },
  { cls := 7, slots := #[.null, .int 0, .int 0, .null, .int 0, .int 0, .int 0, .ref 5], vm := .none },
  { cls := 7, slots := #[.null, .int 0, .int 0, .null, .int 0, .int 0, .int 0, .null], vm := .none },
  { cls := 8, slots := #[.null, .int 1, .int 0, .null, .null], vm := .none },
  { cls := 8, slots := #[.null, .int 0, .int 0, .null, .null], vm := .none },
  { cls := 7, slots := #[.null, .int 0, .int 0, .null, .int 0, .int 0, .int 0, .ref 7], vm := .none },
  { cls := 8, slots := #[.null, .int 2, .int 0, .null, .null], vm := .none },
  { cls := 7, slots := #[.null, .int 0, .int 0, .null, .int 0, .int 0, .int 0, .null], vm := .none },
  { cls := 7, slots := #[.null, .int 0, .int 0, .null, .int 0, .int 0, .int 0, .null], vm := .none },
  { cls := 7, slots := #[.null, .int 0, .int 0, .null, .int 0, .int 0, .int 0, .ref 4], vm := .none }]
def classes : Array Class := #[k0, k1, k2, k3, k4, k5, k6, k7, k8, k9, k10, k11, k12, k13]
def interned : List (Array UInt16 × Addr) := []
def slotsUsed : Nat := 76
def theMethod : MethodId := ⟨1, 3⟩
def args0 : Array Value := #[.int 5, .int 7]
def aboutOver (below : List Frame) : State where
  vm := { classes := classes, interned := interned.toArray }
  heap := heap
  slotsUsed := slotsUsed
  threads := #[{ frames := .invoking theMethod args0 :: below }]
def below0 : List Frame := [.native { method := ⟨0, 0⟩, args := #[] }]
def about1 : State := aboutOver below0
def p0 : Program := .bare "" "" ""
def e0 : Env := launch0.env 0 0 0
theorem w_frames : about1.frames = Frame.invoking theMethod args0 :: below0 := rfl
set_option maxRecDepth 65536 in
theorem w_args : argsFit about1.vm theMethod args0 = true := by decide +kernel
set_option maxRecDepth 65536 in
theorem w_heap : heapFits about1 = true := by decide +kernel
set_option maxRecDepth 65536 in
theorem w_runnable : about1.curStatus? = some .runnable := by decide +kernel
set_option maxRecDepth 65536 in
theorem w_alone : about1.alone = true := by decide +kernel
set_option maxRecDepth 65536 in
theorem w_named : about1.methodNamed? x = some theMethod := by decide +kernel
set_option maxRecDepth 65536 in
theorem w_hears : about1.hears theMethod below0 = true := by decide +kernel
set_option maxRecDepth 65536 in
theorem w_ripe : about1.ripe theMethod args0 below0 = true := by decide +kernel
theorem w_running : about1.status = .running := rfl
set_option maxRecDepth 65536 in
theorem w_room : about1.hasRoom e0.platform room_1 = true :=
  launch0.hasRoom_least _ room_1 (by decide +kernel) (by decide +kernel) (by decide +kernel) (by decide +kernel) (by decide +kernel) (by decide +kernel)
theorem allAtoms_all (ts : List Jvm.Cond) (a : Array Jvm.Value) (st : Jvm.State) : (allAtoms ts).before a st = ts.all (fun c => c.before a st) := by
  induction ts with
  | nil => rfl
  | cons c t ih =>
    show (Jvm.Cond.and c (allAtoms t)).before a st = _
    rw [Jvm.Cond.before_and, ih, List.all_cons]
def words1 : List Jvm.Cond := Jvm.Cond.code x code maxLocals ret :: tables_1
/-- a 'code' word, met by the world's own term for the bytes: nothing is compared byte by byte -/
theorem code_word {y : MethodName} {bytes : ByteArray} {mx : Nat} {rt : Option FieldType} {a : Array Value} {s : State} {m : MethodId} {meth : Method} {c : Code} (h1 : s.methodNamed? y = some m) (h2 : s.vm.method? m = some meth) (h3 : meth.code = some c) (h4 : c.code = bytes)
    (h5 : (c.maxLocals == mx && c.exceptionTable.isEmpty && decide (c.maxStack ≤ mostOperands) && decide (meth.sig.returnType = rt) && !meth.locks && decide (parseMethodDescriptor y.desc = some meth.sig)) = true) : (Jvm.Cond.code y bytes mx rt).before a s = true := by
  simp only [Bool.and_eq_true, beq_iff_eq, Bool.not_eq_true', decide_eq_true_eq] at h5
  obtain ⟨⟨⟨⟨⟨g1, g2⟩, g3⟩, g4⟩, g5⟩, g6⟩ := h5
  simp [Cond.before, Cond.holds, Cond.value, h1, h2, h3, h4, g1, g2, g3, g4, g5, g6]
def isCode : Jvm.Cond → Bool
  | .code _ _ _ _ => true
  | _ => false
theorem all_split {L : List Jvm.Cond} {P : Jvm.Cond → Bool} (h1 : L.all (fun c => isCode c || P c) = true) (h2 : ∀ c ∈ L.filter isCode, P c = true) : L.all P = true := by
  refine List.all_eq_true.mpr fun c hc => ?_
  have h := List.all_eq_true.mp h1 c hc
  rcases Bool.eq_false_or_eq_true (isCode c) with hi | hi
  · exact h2 c (List.mem_filter.mpr ⟨hc, hi⟩)
  · simpa [hi] using h
set_option maxRecDepth 65536 in
theorem w_c0 : (Jvm.Cond.code x code maxLocals ret).before args0 about1 = true := code_word (m := ⟨1, 3⟩) (meth := k1m3) (c := k1c3) (by decide +kernel) rfl rfl rfl (by decide +kernel)
set_option maxRecDepth 65536 in
theorem w_c1 : (Jvm.Cond.code ({ cls := "com/example/cardstand/cardstand/scenario/CardScenarioFailsPinLaw", name := "scenario", desc := "(I)Lcom/example/cardstand/cardstand/scenario/CardScenario;" } : Jvm.MethodName) method_2_code (1 : Nat) (Option.some (Jvm.ClassFile.FieldType.object "com/example/cardstand/cardstand/scenario/CardScenario"))).before args0 about1 = true := code_word (m := ⟨1, 1⟩) (meth := k1m1) (c := k1c1) (by decide +kernel) rfl rfl rfl (by decide +kernel)
set_option maxRecDepth 65536 in
theorem w_c2 : (Jvm.Cond.code ({ cls := "com/example/cardstand/cardstand/scenario/CardScenarioFailsPinLaw", name := "operation", desc := "(I)Lcom/example/cardstand/cardstand/scenario/CardScenario$Operation;" } : Jvm.MethodName) method_3_code (1 : Nat) (Option.some (Jvm.ClassFile.FieldType.object "com/example/cardstand/cardstand/scenario/CardScenario$Operation"))).before args0 about1 = true := code_word (m := ⟨1, 2⟩) (meth := k1m2) (c := k1c2) (by decide +kernel) rfl rfl rfl (by decide +kernel)
set_option maxRecDepth 65536 in
theorem w_c3 : (Jvm.Cond.code ({ cls := "com/example/cardstand/cardstand/scenario/CardScenario", name := "fails", desc := "(Lcom/example/cardstand/cardstand/scenario/CardScenario$Operation;)Z" } : Jvm.MethodName) prog_33_method_9_code (2 : Nat) (Option.some Jvm.ClassFile.FieldType.boolean)).before args0 about1 = true := code_word (m := ⟨7, 0⟩) (meth := k7m0) (c := k7c0) (by decide +kernel) rfl rfl rfl (by decide +kernel)
def codes1 : List Jvm.Cond := [Jvm.Cond.code x code maxLocals ret, Jvm.Cond.code ({ cls := "com/example/cardstand/cardstand/scenario/CardScenarioFailsPinLaw", name := "scenario", desc := "(I)Lcom/example/cardstand/cardstand/scenario/CardScenario;" } : Jvm.MethodName) method_2_code (1 : Nat) (Option.some (Jvm.ClassFile.FieldType.object "com/example/cardstand/cardstand/scenario/CardScenario")), Jvm.Cond.code ({ cls := "com/example/cardstand/cardstand/scenario/CardScenarioFailsPinLaw", name := "operation", desc := "(I)Lcom/example/cardstand/cardstand/scenario/CardScenario$Operation;" } : Jvm.MethodName) method_3_code (1 : Nat) (Option.some (Jvm.ClassFile.FieldType.object "com/example/cardstand/cardstand/scenario/CardScenario$Operation")), Jvm.Cond.code ({ cls := "com/example/cardstand/cardstand/scenario/CardScenario", name := "fails", desc := "(Lcom/example/cardstand/cardstand/scenario/CardScenario$Operation;)Z" } : Jvm.MethodName) prog_33_method_9_code (2 : Nat) (Option.some Jvm.ClassFile.FieldType.boolean)]
set_option maxRecDepth 65536 in
theorem codes_eq : words1.filter isCode = codes1 := rfl
theorem w_codes : ∀ c ∈ words1.filter isCode, c.before args0 about1 = true := by
  rw [codes_eq]
  intro c hc
  simp only [codes1, List.mem_cons, List.not_mem_nil, or_false] at hc
  rcases hc with rfl | rfl | rfl | rfl
  · exact w_c0
  · exact w_c1
  · exact w_c2
  · exact w_c3
set_option maxRecDepth 65536 in
theorem w_t1 : (words1.take 24).all (fun c => isCode c || c.before args0 about1) = true := by decide +kernel
set_option maxRecDepth 65536 in
theorem w_t2 : (words1.drop 24).all (fun c => isCode c || c.before args0 about1) = true := by decide +kernel
theorem w_tables : (allAtoms (Jvm.Cond.code x code maxLocals ret :: tables_1)).before args0 about1 = true := by
  rw [allAtoms_all]
  show words1.all (fun c => c.before args0 about1) = true
  refine all_split ?_ w_codes
  rw [← List.take_append_drop 24 words1, List.all_append, w_t1, w_t2]
  rfl
set_option maxRecDepth 65536 in
theorem w_case : (Jvm.Cond.and given_1 narrow_1).before args0 about1 = true := by decide +kernel
theorem w_applies : (headSpec (Jvm.Cond.code x code maxLocals ret :: tables_1) room_1).applies x e0.platform about1 = true :=
  (Spec.applies_iff w_frames).mpr ⟨w_running, w_runnable, w_alone, w_named, w_hears, w_ripe, w_room, w_tables⟩
theorem atStart : AtStart classFile x code maxLocals ret World_1 tables_1 room_1 Calls_1 rest_1 Pre_1 launch0 p0 e0 about1 theMethod args0 below0 :=
  ⟨lists_1, trivial, launch0.admits_env _ _ _, launch0.least_env, fairChoices_fair.cas, fairChoices_fair.clock, w_frames, w_args, w_heap, w_applies, trivial, trivial, w_case⟩
end start1
theorem witness_1 : WitnessClaimed_1 := ⟨start1.p0, start1.e0, start1.about1, start1.theMethod, start1.args0, start1.below0, start1.atStart⟩
end Jvm.Pilot.@@N@@
