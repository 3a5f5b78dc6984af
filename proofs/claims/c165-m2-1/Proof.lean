import JvmDerived
import JvmDerived.Pilot.@@N@@Statement
import JvmDerived.Pilot.@@N@@Code
set_option linter.unusedVariables false
set_option linter.unusedSimpArgs false
namespace Jvm.RoadKit
open Sem ClassFile Op Lib Jvm.Stand Jvm.Free Jvm.LawKit
section New
variable {p : Program} {l : Launch} {e : Env} {R : Room} {s : State} {m : MethodId} {args : Array Value} {below : List Frame} {meth : Method} {c : Code} {T : State} {locs : List Loc} {cells slots : Nat}
theorem own_retI (X : Stand p l e R s m args below meth c T locs cells slots) (hx : p.tables.exec = Jvm.exec) {pc : Nat} {Ls : Array Slot} {z : Int32} {rest : List Value} (hret : meth.sig.returnType = some .int) (hd : decode c.code pc = .ok (.ireturn, 1)) {fs : List Frame}
    (hl : ∀ (f : JFrame) (acts : List Action), f.method = m → f.locked = none → f.entered = [] → (doReturn e (T.setTop f) acts (some (.int z))).1 = T.setFrames fs) : Steps p.tables e below (T.setTop (mkF m pc Ls (.int z :: rest))) (T.setFrames fs) :=
  retOut X hx hret rfl (Or.inl ⟨rfl, Or.inl rfl, z, rfl⟩) hd hl
theorem own_retL (X : Stand p l e R s m args below meth c T locs cells slots) (hx : p.tables.exec = Jvm.exec) {pc : Nat} {Ls : Array Slot} {z : Int64} {rest : List Value} (hret : meth.sig.returnType = some .long) (hd : decode c.code pc = .ok (.lreturn, 1)) {fs : List Frame}
    (hl : ∀ (f : JFrame) (acts : List Action), f.method = m → f.locked = none → f.entered = [] → (doReturn e (T.setTop f) acts (some (.long z))).1 = T.setFrames fs) : Steps p.tables e below (T.setTop (mkF m pc Ls (.long z :: rest))) (T.setFrames fs) :=
  retOut X hx hret rfl (Or.inr (Or.inl ⟨rfl, rfl, z, rfl⟩)) hd hl
theorem own_retA (X : Stand p l e R s m args below meth c T locs cells slots) (hx : p.tables.exec = Jvm.exec) {pc : Nat} {Ls : Array Slot} {w : Value} {t : FieldType} {rest : List Value} (hret : meth.sig.returnType = some t) (ht : t.isReference = true) (hw : w.isRef = true) (hd : decode c.code pc = .ok (.areturn, 1)) {fs : List Frame}
    (hl : ∀ (f : JFrame) (acts : List Action), f.method = m → f.locked = none → f.entered = [] → (doReturn e (T.setTop f) acts (some w)).1 = T.setFrames fs) : Steps p.tables e below (T.setTop (mkF m pc Ls (w :: rest))) (T.setFrames fs) :=
  retOut X hx hret (by cases t <;> cases w <;> simp_all [narrow, Value.isRef, FieldType.isReference]) (Or.inr (Or.inr (Or.inr (Or.inr ⟨rfl, ht, hw⟩)))) hd hl
end New
end Jvm.RoadKit
namespace Jvm.Pilot.@@N@@
open Jvm Jvm.ClassFile Sem Op Lib Jvm.Free Jvm.Stand Jvm.LawKit Jvm.RoadKit Bundle Jvm.Pilot.@@N@@.Jvm.D
theorem own_lcEt {x y : Int64} (h : x = y) : lcmpW x y = (0 : Int32) := by rw [lcW]; exact (lc_eq x y).mpr h
theorem own_lcEf {x y : Int64} (h : ¬ (x = y)) : ¬ (lcmpW x y = (0 : Int32)) := by rw [lcW]; exact fun q => h ((lc_eq x y).mp q)
theorem own_lcLt {x y : Int64} (h : x < y) : lcmpW x y < (0 : Int32) := by rw [lcW]; exact (lc_lt x y).mpr h
theorem own_lcLf {x y : Int64} (h : ¬ (x < y)) : ¬ (lcmpW x y < (0 : Int32)) := by rw [lcW]; exact fun q => h ((lc_lt x y).mp q)
theorem own_lcGt {x y : Int64} (h : y < x) : (0 : Int32) < lcmpW x y := by rw [lcW]; exact (lc_gt x y).mpr h
theorem own_lcGf {x y : Int64} (h : ¬ (y < x)) : ¬ ((0 : Int32) < lcmpW x y) := by rw [lcW]; exact fun q => h ((lc_gt x y).mp q)
theorem own_ext_refl (h : Heap) : Ext h h := ⟨Nat.le_refl _, fun _ _ q => q⟩
theorem own_ext_trans {h h' h'' : Heap} (E : Ext h h') (F : Ext h' h'') : Ext h h'' := ⟨Nat.le_trans E.1 F.1, fun a c q => F.2 a c (E.2 a c q)⟩
theorem own_ext_wr {h h' h'' : Heap} {a : Addr} {sl : Nat} {v : Value} (E : Ext h h') (W : Wr h' h'' a sl v) (q : h.size ≤ a) : Ext h h'' := by
  obtain ⟨cell, -, -, -, rfl⟩ := W
  refine ⟨by simpa using E.1, fun b c r => ?_⟩
  have hb : b < h.size := (Array.getElem?_eq_some_iff.mp r).1
  rw [Array.getElem?_setIfInBounds_ne (Nat.ne_of_gt (Nat.lt_of_lt_of_le hb q))]
  exact E.2 b c r
theorem own_fldI {args : Array Value} {s : State} {t : Term} {a : Addr} {C n d : String} {k : Int32} (ev : t.eval args s none [] s = some (.ref a)) (h : (Cond.eq (.field t C n d) (.int k)).value args s none s [] = some true) : Fld s s.heap a C n d (.int k) := by
  obtain ⟨u, v, h1, h2, -, k2⟩ := cmp_v (Or.inl h)
  have e2 : (Term.int k).eval args s none [] s = some (.int k) := rfl
  cases e2.symm.trans h2
  obtain ⟨z, rfl⟩ := k2
  have q : z = k := by simpa [Cond.value, h1, e2] using h
  subst q
  exact Fld.start ((fld_at ev).symm.trans h1)
theorem own_fldJ {args : Array Value} {s : State} {t : Term} {a : Addr} {C n d : String} {k : Int64} (ev : t.eval args s none [] s = some (.ref a)) (h : (Cond.eq (.field t C n d) (.long k)).value args s none s [] = some true) : Fld s s.heap a C n d (.long k) := by
  obtain ⟨u, v, h1, h2, -, k2⟩ := cmp_v (Or.inl h)
  have e2 : (Term.long k).eval args s none [] s = some (.long k) := rfl
  cases e2.symm.trans h2
  obtain ⟨z, rfl⟩ := k2
  have q : z = k := by simpa [Cond.value, h1, e2] using h
  subst q
  exact Fld.start ((fld_at ev).symm.trans h1)
theorem own_fldN {args : Array Value} {s : State} {t : Term} {a : Addr} {C n d : String} (ev : t.eval args s none [] s = some (.ref a)) (h : (Cond.eq (.field t C n d) .null).value args s none s [] = some true) : Fld s s.heap a C n d .null :=
  Fld.start ((fld_at ev).symm.trans (null_v h))
theorem own_eqR {args : Array Value} {s : State} {t u : Term} {b : Addr} (eu : u.eval args s none [] s = some (.ref b)) (h : (Cond.eq t u).value args s none s [] = some true) : t.eval args s none [] s = some (.ref b) := by
  obtain ⟨x, y, h1, h2, k1, k2⟩ := cmp_v (Or.inl h)
  cases eu.symm.trans h2
  have hx : x.isRef = true := k2.2
  have q := gotT (eq_R h1 h2 hx rfl) h
  rw [h1, q]
theorem own_fldR {args : Array Value} {s : State} {t u : Term} {a b : Addr} {C n d : String} (ev : t.eval args s none [] s = some (.ref a)) (eu : u.eval args s none [] s = some (.ref b)) (h : (Cond.eq (.field t C n d) u).value args s none s [] = some true) : Fld s s.heap a C n d (.ref b) :=
  Fld.start ((fld_at ev).symm.trans (own_eqR eu h))
theorem own_elI {args : Array Value} {s : State} {t : Term} {a : Addr} {cl : Cell} {j k : Int32} {i : Nat} (ev : t.eval args s none [] s = some (.ref a)) (hc : s.heap[a]? = some cl) (h : (Cond.eq (.elem t (.int j)) (.int k)).value args s none s [] = some true) (hj : j.toNatClampNeg = i) : cl.slots[i]? = some (.int k) := by
  obtain ⟨u, v, h1, h2, -, k2⟩ := cmp_v (Or.inl h)
  have e2 : (Term.int k).eval args s none [] s = some (.int k) := rfl
  cases e2.symm.trans h2
  obtain ⟨z, rfl⟩ := k2
  have q : z = k := by simpa [Cond.value, h1, e2] using h
  subst q hj
  exact (elem_in h1 ev (rfl : (Term.int j).eval args s none [] s = some (.int j)) hc).2
theorem own_elR {args : Array Value} {s : State} {t u : Term} {a b : Addr} {cl : Cell} {j : Int32} {i : Nat} (ev : t.eval args s none [] s = some (.ref a)) (eu : u.eval args s none [] s = some (.ref b)) (hc : s.heap[a]? = some cl) (h : (Cond.eq (.elem t (.int j)) u).value args s none s [] = some true) (hj : j.toNatClampNeg = i) : cl.slots[i]? = some (.ref b) := by
  subst hj
  exact (elem_in (own_eqR eu h) ev (rfl : (Term.int j).eval args s none [] s = some (.int j)) hc).2
theorem own_len {args : Array Value} {s : State} {t : Term} {a : Addr} {cl : Cell} {ty : FieldType} {k : Int32} (ev : t.eval args s none [] s = some (.ref a)) (A : Arr s s.heap a cl ty) (h : (Cond.eq (.length t) (.int k)).value args s none s [] = some true) : cl.slots.size < 2 ^ 31 ∧ cl.slots.size.toInt32 = k := by
  obtain ⟨u, v, h1, h2, -, k2⟩ := cmp_v (Or.inl h)
  have e2 : (Term.int k).eval args s none [] s = some (.int k) := rfl
  cases e2.symm.trans h2
  obtain ⟨z, rfl⟩ := k2
  have q : z = k := by simpa [Cond.value, h1, e2] using h
  subst q
  have ha := A.fin (Vm.Alike.refl _)
  simp only [Term.eval, ev, ha, Option.bind_eq_bind, Option.bind_some] at h1
  split at h1
  · rename_i q
    exact ⟨q, by simpa using h1⟩
  · cases h1
theorem own_mask (p : Int32) : (p &&& (2147483647 : Int32)).toInt = p.toInt % 2 ^ 31 := by
  have h1 : (p &&& (2147483647 : Int32)).toInt = ((p &&& (2147483647 : Int32)).toBitVec).toInt := rfl
  have h2 : (p &&& (2147483647 : Int32)).toBitVec = p.toBitVec &&& 2147483647#32 := by simp [Int32.toBitVec_and]
  have h3 : p.toInt = p.toBitVec.toInt := rfl
  rw [h1, h2, h3, BitVec.toInt_eq_toNat_bmod, BitVec.toInt_eq_toNat_bmod, BitVec.toNat_and]
  have h4 : p.toBitVec.toNat &&& (2147483647#32).toNat = p.toBitVec.toNat % 2 ^ 31 := Nat.and_two_pow_sub_one_eq_mod _ 31
  rw [h4]
  have h5 := p.toBitVec.isLt
  generalize p.toBitVec.toNat = n at *
  simp only [Int.bmod_def]
  omega
theorem own_cases12 {z p : Int32} (h : z = (p &&& (2147483647 : Int32)) % (12 : Int32)) : z = (0 : Int32) ∨ z = (1 : Int32) ∨ z = (2 : Int32) ∨ z = (3 : Int32) ∨ z = (4 : Int32) ∨ z = (5 : Int32) ∨ z = (6 : Int32) ∨ z = (7 : Int32) ∨ z = (8 : Int32) ∨ z = (9 : Int32) ∨ z = (10 : Int32) ∨ z = (11 : Int32) := by
  have e1 : (p &&& (2147483647 : Int32)).toInt = p.toInt % 2 ^ 31 := own_mask p
  have e2 : z.toInt = (p.toInt % 2 ^ 31) % 12 := by
    rw [h, Int32.toInt_mod, e1, show (12 : Int32).toInt = 12 from by decide, Int.tmod_eq_emod_of_nonneg (Int.emod_nonneg _ (by decide))]
  have e3 : 0 ≤ z.toInt ∧ z.toInt < 12 := by rw [e2]; exact ⟨Int.emod_nonneg _ (by decide), Int.emod_lt_of_pos _ (by decide)⟩
  have k : ∀ {c : Int32} {k : Int}, c.toInt = k → z.toInt = k → z = c := fun h1 h2 => Int32.toInt_inj.mp (h2.trans h1.symm)
  have e4 : z.toInt = 0 ∨ z.toInt = 1 ∨ z.toInt = 2 ∨ z.toInt = 3 ∨ z.toInt = 4 ∨ z.toInt = 5 ∨ z.toInt = 6 ∨ z.toInt = 7 ∨ z.toInt = 8 ∨ z.toInt = 9 ∨ z.toInt = 10 ∨ z.toInt = 11 := by omega
  rcases e4 with e | e | e | e | e | e | e | e | e | e | e | e
  · exact Or.inl (k (by decide) e)
  · exact Or.inr (Or.inl (k (by decide) e))
  · exact Or.inr (Or.inr (Or.inl (k (by decide) e)))
  · exact Or.inr (Or.inr (Or.inr (Or.inl (k (by decide) e))))
  · exact Or.inr (Or.inr (Or.inr (Or.inr (Or.inl (k (by decide) e)))))
  · exact Or.inr (Or.inr (Or.inr (Or.inr (Or.inr (Or.inl (k (by decide) e))))))
  · exact Or.inr (Or.inr (Or.inr (Or.inr (Or.inr (Or.inr (Or.inl (k (by decide) e)))))))
  · exact Or.inr (Or.inr (Or.inr (Or.inr (Or.inr (Or.inr (Or.inr (Or.inl (k (by decide) e))))))))
  · exact Or.inr (Or.inr (Or.inr (Or.inr (Or.inr (Or.inr (Or.inr (Or.inr (Or.inl (k (by decide) e)))))))))
  · exact Or.inr (Or.inr (Or.inr (Or.inr (Or.inr (Or.inr (Or.inr (Or.inr (Or.inr (Or.inl (k (by decide) e))))))))))
  · exact Or.inr (Or.inr (Or.inr (Or.inr (Or.inr (Or.inr (Or.inr (Or.inr (Or.inr (Or.inr (Or.inl (k (by decide) e)))))))))))
  · exact Or.inr (Or.inr (Or.inr (Or.inr (Or.inr (Or.inr (Or.inr (Or.inr (Or.inr (Or.inr (Or.inr ((k (by decide) e))))))))))))
def World (Z : State) (h : Heap) (wAPPROVED : Addr) (wVOICE_APPROVED : Addr) (wINVALID_CARD : Addr) (wREFERRAL : Addr) (wLOST_OR_STOLEN : Addr) (wCREDIT_POSTED : Addr) (wNETWORK_ERROR : Addr) (wPICK_UP : Addr) (wINSUFFICIENT_FUNDS : Addr) (wCSC_FAILED : Addr) (wNETWORK_UNAVAILABLE : Addr) (wPARTIALLY_APPROVED : Addr) : Prop := Sta Z h "com/example/cardstand/cardstand/scenario/PaymentAppScenario$Result" "APPROVED" "Lcom/example/cardstand/cardstand/scenario/PaymentAppScenario$Result;" (.ref wAPPROVED) ∧ Exa Z h wAPPROVED "com/example/cardstand/cardstand/scenario/PaymentAppScenario$Result" ∧ Fld Z h wAPPROVED "com/example/cardstand/cardstand/scenario/PaymentAppScenario$Result" "approved" "Z" (.int (1 : Int32)) ∧ Fld Z h wAPPROVED "com/example/cardstand/cardstand/scenario/PaymentAppScenario$Result" "heldBackInCents" "J" (.long (0 : Int64)) ∧ Sta Z h "com/example/cardstand/cardstand/scenario/PaymentAppScenario$Result" "VOICE_APPROVED" "Lcom/example/cardstand/cardstand/scenario/PaymentAppScenario$Result;" (.ref wVOICE_APPROVED) ∧ Exa Z h wVOICE_APPROVED "com/example/cardstand/cardstand/scenario/PaymentAppScenario$Result" ∧ Fld Z h wVOICE_APPROVED "com/example/cardstand/cardstand/scenario/PaymentAppScenario$Result" "approved" "Z" (.int (1 : Int32)) ∧ Fld Z h wVOICE_APPROVED "com/example/cardstand/cardstand/scenario/PaymentAppScenario$Result" "heldBackInCents" "J" (.long (0 : Int64)) ∧ Sta Z h "com/example/cardstand/cardstand/scenario/PaymentAppScenario$Result" "INVALID_CARD" "Lcom/example/cardstand/cardstand/scenario/PaymentAppScenario$Result;" (.ref wINVALID_CARD) ∧ Exa Z h wINVALID_CARD "com/example/cardstand/cardstand/scenario/PaymentAppScenario$Result" ∧ Fld Z h wINVALID_CARD "com/example/cardstand/cardstand/scenario/PaymentAppScenario$Result" "approved" "Z" (.int (0 : Int32)) ∧ Sta Z h "com/example/cardstand/cardstand/scenario/PaymentAppScenario$Result" "REFERRAL" "Lcom/example/cardstand/cardstand/scenario/PaymentAppScenario$Result;" (.ref wREFERRAL) ∧ Exa Z h wREFERRAL "com/example/cardstand/cardstand/scenario/PaymentAppScenario$Result" ∧ Fld Z h wREFERRAL "com/example/cardstand/cardstand/scenario/PaymentAppScenario$Result" "approved" "Z" (.int (0 : Int32)) ∧ Sta Z h "com/example/cardstand/cardstand/scenario/PaymentAppScenario$Result" "LOST_OR_STOLEN" "Lcom/example/cardstand/cardstand/scenario/PaymentAppScenario$Result;" (.ref wLOST_OR_STOLEN) ∧ Exa Z h wLOST_OR_STOLEN "com/example/cardstand/cardstand/scenario/PaymentAppScenario$Result" ∧ Fld Z h wLOST_OR_STOLEN "com/example/cardstand/cardstand/scenario/PaymentAppScenario$Result" "approved" "Z" (.int (0 : Int32)) ∧ Sta Z h "com/example/cardstand/cardstand/scenario/PaymentAppScenario$Result" "CREDIT_POSTED" "Lcom/example/cardstand/cardstand/scenario/PaymentAppScenario$Result;" (.ref wCREDIT_POSTED) ∧ Exa Z h wCREDIT_POSTED "com/example/cardstand/cardstand/scenario/PaymentAppScenario$Result" ∧ Fld Z h wCREDIT_POSTED "com/example/cardstand/cardstand/scenario/PaymentAppScenario$Result" "approved" "Z" (.int (1 : Int32)) ∧ Fld Z h wCREDIT_POSTED "com/example/cardstand/cardstand/scenario/PaymentAppScenario$Result" "heldBackInCents" "J" (.long (0 : Int64)) ∧ Sta Z h "com/example/cardstand/cardstand/scenario/PaymentAppScenario$Result" "NETWORK_ERROR" "Lcom/example/cardstand/cardstand/scenario/PaymentAppScenario$Result;" (.ref wNETWORK_ERROR) ∧ Exa Z h wNETWORK_ERROR "com/example/cardstand/cardstand/scenario/PaymentAppScenario$Result" ∧ Fld Z h wNETWORK_ERROR "com/example/cardstand/cardstand/scenario/PaymentAppScenario$Result" "approved" "Z" (.int (0 : Int32)) ∧ Sta Z h "com/example/cardstand/cardstand/scenario/PaymentAppScenario$Result" "PICK_UP" "Lcom/example/cardstand/cardstand/scenario/PaymentAppScenario$Result;" (.ref wPICK_UP) ∧ Exa Z h wPICK_UP "com/example/cardstand/cardstand/scenario/PaymentAppScenario$Result" ∧ Fld Z h wPICK_UP "com/example/cardstand/cardstand/scenario/PaymentAppScenario$Result" "approved" "Z" (.int (0 : Int32)) ∧ Sta Z h "com/example/cardstand/cardstand/scenario/PaymentAppScenario$Result" "INSUFFICIENT_FUNDS" "Lcom/example/cardstand/cardstand/scenario/PaymentAppScenario$Result;" (.ref wINSUFFICIENT_FUNDS) ∧ Exa Z h wINSUFFICIENT_FUNDS "com/example/cardstand/cardstand/scenario/PaymentAppScenario$Result" ∧ Fld Z h wINSUFFICIENT_FUNDS "com/example/cardstand/cardstand/scenario/PaymentAppScenario$Result" "approved" "Z" (.int (0 : Int32)) ∧ Sta Z h "com/example/cardstand/cardstand/scenario/PaymentAppScenario$Result" "CSC_FAILED" "Lcom/example/cardstand/cardstand/scenario/PaymentAppScenario$Result;" (.ref wCSC_FAILED) ∧ Exa Z h wCSC_FAILED "com/example/cardstand/cardstand/scenario/PaymentAppScenario$Result" ∧ Fld Z h wCSC_FAILED "com/example/cardstand/cardstand/scenario/PaymentAppScenario$Result" "approved" "Z" (.int (0 : Int32)) ∧ Sta Z h "com/example/cardstand/cardstand/scenario/PaymentAppScenario$Result" "NETWORK_UNAVAILABLE" "Lcom/example/cardstand/cardstand/scenario/PaymentAppScenario$Result;" (.ref wNETWORK_UNAVAILABLE) ∧ Exa Z h wNETWORK_UNAVAILABLE "com/example/cardstand/cardstand/scenario/PaymentAppScenario$Result" ∧ Fld Z h wNETWORK_UNAVAILABLE "com/example/cardstand/cardstand/scenario/PaymentAppScenario$Result" "approved" "Z" (.int (0 : Int32)) ∧ Sta Z h "com/example/cardstand/cardstand/scenario/PaymentAppScenario$Result" "PARTIALLY_APPROVED" "Lcom/example/cardstand/cardstand/scenario/PaymentAppScenario$Result;" (.ref wPARTIALLY_APPROVED) ∧ Exa Z h wPARTIALLY_APPROVED "com/example/cardstand/cardstand/scenario/PaymentAppScenario$Result" ∧ Fld Z h wPARTIALLY_APPROVED "com/example/cardstand/cardstand/scenario/PaymentAppScenario$Result" "approved" "Z" (.int (1 : Int32)) ∧ Fld Z h wPARTIALLY_APPROVED "com/example/cardstand/cardstand/scenario/PaymentAppScenario$Result" "heldBackInCents" "J" (.long (1000 : Int64)) ∧ Fld Z h wINVALID_CARD "com/example/cardstand/cardstand/scenario/PaymentAppScenario$Result" "heldBackInCents" "J" (.long (0 : Int64)) ∧ Fld Z h wREFERRAL "com/example/cardstand/cardstand/scenario/PaymentAppScenario$Result" "heldBackInCents" "J" (.long (0 : Int64)) ∧ Fld Z h wLOST_OR_STOLEN "com/example/cardstand/cardstand/scenario/PaymentAppScenario$Result" "heldBackInCents" "J" (.long (0 : Int64)) ∧ Fld Z h wNETWORK_ERROR "com/example/cardstand/cardstand/scenario/PaymentAppScenario$Result" "heldBackInCents" "J" (.long (0 : Int64)) ∧ Fld Z h wPICK_UP "com/example/cardstand/cardstand/scenario/PaymentAppScenario$Result" "heldBackInCents" "J" (.long (0 : Int64)) ∧ Fld Z h wINSUFFICIENT_FUNDS "com/example/cardstand/cardstand/scenario/PaymentAppScenario$Result" "heldBackInCents" "J" (.long (0 : Int64)) ∧ Fld Z h wCSC_FAILED "com/example/cardstand/cardstand/scenario/PaymentAppScenario$Result" "heldBackInCents" "J" (.long (0 : Int64)) ∧ Fld Z h wNETWORK_UNAVAILABLE "com/example/cardstand/cardstand/scenario/PaymentAppScenario$Result" "heldBackInCents" "J" (.long (0 : Int64)) ∧ True
theorem World.ext {Z : State} {h h' : Heap} {wAPPROVED : Addr} {wVOICE_APPROVED : Addr} {wINVALID_CARD : Addr} {wREFERRAL : Addr} {wLOST_OR_STOLEN : Addr} {wCREDIT_POSTED : Addr} {wNETWORK_ERROR : Addr} {wPICK_UP : Addr} {wINSUFFICIENT_FUNDS : Addr} {wCSC_FAILED : Addr} {wNETWORK_UNAVAILABLE : Addr} {wPARTIALLY_APPROVED : Addr} (W : World Z h wAPPROVED wVOICE_APPROVED wINVALID_CARD wREFERRAL wLOST_OR_STOLEN wCREDIT_POSTED wNETWORK_ERROR wPICK_UP wINSUFFICIENT_FUNDS wCSC_FAILED wNETWORK_UNAVAILABLE wPARTIALLY_APPROVED) (E : Ext h h') : World Z h' wAPPROVED wVOICE_APPROVED wINVALID_CARD wREFERRAL wLOST_OR_STOLEN wCREDIT_POSTED wNETWORK_ERROR wPICK_UP wINSUFFICIENT_FUNDS wCSC_FAILED wNETWORK_UNAVAILABLE wPARTIALLY_APPROVED := by
  obtain ⟨SAPPROVED, EAPPROVED, FAPPROVED_approved, FAPPROVED_heldBackInCents, SVOICE_APPROVED, EVOICE_APPROVED, FVOICE_APPROVED_approved, FVOICE_APPROVED_heldBackInCents, SINVALID_CARD, EINVALID_CARD, FINVALID_CARD_approved, SREFERRAL, EREFERRAL, FREFERRAL_approved, SLOST_OR_STOLEN, ELOST_OR_STOLEN, FLOST_OR_STOLEN_approved, SCREDIT_POSTED, ECREDIT_POSTED, FCREDIT_POSTED_approved, FCREDIT_POSTED_heldBackInCents, SNETWORK_ERROR, ENETWORK_ERROR, FNETWORK_ERROR_approved, SPICK_UP, EPICK_UP, FPICK_UP_approved, SINSUFFICIENT_FUNDS, EINSUFFICIENT_FUNDS, FINSUFFICIENT_FUNDS_approved, SCSC_FAILED, ECSC_FAILED, FCSC_FAILED_approved, SNETWORK_UNAVAILABLE, ENETWORK_UNAVAILABLE, FNETWORK_UNAVAILABLE_approved, SPARTIALLY_APPROVED, EPARTIALLY_APPROVED, FPARTIALLY_APPROVED_approved, FPARTIALLY_APPROVED_heldBackInCents, FINVALID_CARD_heldBackInCents, FREFERRAL_heldBackInCents, FLOST_OR_STOLEN_heldBackInCents, FNETWORK_ERROR_heldBackInCents, FPICK_UP_heldBackInCents, FINSUFFICIENT_FUNDS_heldBackInCents, FCSC_FAILED_heldBackInCents, FNETWORK_UNAVAILABLE_heldBackInCents, -⟩ := W
  exact ⟨SAPPROVED.ext E, EAPPROVED.ext E, FAPPROVED_approved.ext E, FAPPROVED_heldBackInCents.ext E, SVOICE_APPROVED.ext E, EVOICE_APPROVED.ext E, FVOICE_APPROVED_approved.ext E, FVOICE_APPROVED_heldBackInCents.ext E, SINVALID_CARD.ext E, EINVALID_CARD.ext E, FINVALID_CARD_approved.ext E, SREFERRAL.ext E, EREFERRAL.ext E, FREFERRAL_approved.ext E, SLOST_OR_STOLEN.ext E, ELOST_OR_STOLEN.ext E, FLOST_OR_STOLEN_approved.ext E, SCREDIT_POSTED.ext E, ECREDIT_POSTED.ext E, FCREDIT_POSTED_approved.ext E, FCREDIT_POSTED_heldBackInCents.ext E, SNETWORK_ERROR.ext E, ENETWORK_ERROR.ext E, FNETWORK_ERROR_approved.ext E, SPICK_UP.ext E, EPICK_UP.ext E, FPICK_UP_approved.ext E, SINSUFFICIENT_FUNDS.ext E, EINSUFFICIENT_FUNDS.ext E, FINSUFFICIENT_FUNDS_approved.ext E, SCSC_FAILED.ext E, ECSC_FAILED.ext E, FCSC_FAILED_approved.ext E, SNETWORK_UNAVAILABLE.ext E, ENETWORK_UNAVAILABLE.ext E, FNETWORK_UNAVAILABLE_approved.ext E, SPARTIALLY_APPROVED.ext E, EPARTIALLY_APPROVED.ext E, FPARTIALLY_APPROVED_approved.ext E, FPARTIALLY_APPROVED_heldBackInCents.ext E, FINVALID_CARD_heldBackInCents.ext E, FREFERRAL_heldBackInCents.ext E, FLOST_OR_STOLEN_heldBackInCents.ext E, FNETWORK_ERROR_heldBackInCents.ext E, FPICK_UP_heldBackInCents.ext E, FINSUFFICIENT_FUNDS_heldBackInCents.ext E, FCSC_FAILED_heldBackInCents.ext E, FNETWORK_UNAVAILABLE_heldBackInCents.ext E, trivial⟩
theorem d1_0 : decode method_3_code 0 = .ok (.iload_n 0, 1) := by decide +kernel
theorem d1_1 : decode method_3_code 1 = .ok (.ifCond .ne 7, 3) := by decide +kernel
theorem d1_4 : decode method_3_code 4 = .ok (.getstatic 24, 3) := by decide +kernel
theorem d1_7 : decode method_3_code 7 = .ok (.areturn, 1) := by decide +kernel
theorem d1_8 : decode method_3_code 8 = .ok (.iload_n 0, 1) := by decide +kernel
theorem d1_9 : decode method_3_code 9 = .ok (.iconst 1, 1) := by decide +kernel
theorem d1_10 : decode method_3_code 10 = .ok (.if_icmp .ne 7, 3) := by decide +kernel
theorem d1_13 : decode method_3_code 13 = .ok (.getstatic 28, 3) := by decide +kernel
theorem d1_16 : decode method_3_code 16 = .ok (.areturn, 1) := by decide +kernel
theorem d1_17 : decode method_3_code 17 = .ok (.iload_n 0, 1) := by decide +kernel
theorem d1_18 : decode method_3_code 18 = .ok (.iconst 2, 1) := by decide +kernel
theorem d1_19 : decode method_3_code 19 = .ok (.if_icmp .ne 7, 3) := by decide +kernel
theorem d1_22 : decode method_3_code 22 = .ok (.getstatic 31, 3) := by decide +kernel
theorem d1_25 : decode method_3_code 25 = .ok (.areturn, 1) := by decide +kernel
theorem d1_26 : decode method_3_code 26 = .ok (.iload_n 0, 1) := by decide +kernel
theorem d1_27 : decode method_3_code 27 = .ok (.iconst 3, 1) := by decide +kernel
theorem d1_28 : decode method_3_code 28 = .ok (.if_icmp .ne 7, 3) := by decide +kernel
theorem d1_31 : decode method_3_code 31 = .ok (.getstatic 34, 3) := by decide +kernel
theorem d1_34 : decode method_3_code 34 = .ok (.areturn, 1) := by decide +kernel
theorem d1_35 : decode method_3_code 35 = .ok (.iload_n 0, 1) := by decide +kernel
theorem d1_36 : decode method_3_code 36 = .ok (.iconst 4, 1) := by decide +kernel
theorem d1_37 : decode method_3_code 37 = .ok (.if_icmp .ne 7, 3) := by decide +kernel
theorem d1_40 : decode method_3_code 40 = .ok (.getstatic 37, 3) := by decide +kernel
theorem d1_43 : decode method_3_code 43 = .ok (.areturn, 1) := by decide +kernel
theorem d1_44 : decode method_3_code 44 = .ok (.iload_n 0, 1) := by decide +kernel
theorem d1_45 : decode method_3_code 45 = .ok (.iconst 5, 1) := by decide +kernel
theorem d1_46 : decode method_3_code 46 = .ok (.if_icmp .ne 7, 3) := by decide +kernel
theorem d1_49 : decode method_3_code 49 = .ok (.getstatic 40, 3) := by decide +kernel
theorem d1_52 : decode method_3_code 52 = .ok (.areturn, 1) := by decide +kernel
theorem d1_53 : decode method_3_code 53 = .ok (.iload_n 0, 1) := by decide +kernel
theorem d1_54 : decode method_3_code 54 = .ok (.bipush 6, 2) := by decide +kernel
theorem d1_56 : decode method_3_code 56 = .ok (.if_icmp .ne 7, 3) := by decide +kernel
theorem d1_59 : decode method_3_code 59 = .ok (.getstatic 43, 3) := by decide +kernel
theorem d1_62 : decode method_3_code 62 = .ok (.areturn, 1) := by decide +kernel
theorem d1_63 : decode method_3_code 63 = .ok (.iload_n 0, 1) := by decide +kernel
theorem d1_64 : decode method_3_code 64 = .ok (.bipush 7, 2) := by decide +kernel
theorem d1_66 : decode method_3_code 66 = .ok (.if_icmp .ne 7, 3) := by decide +kernel
theorem d1_69 : decode method_3_code 69 = .ok (.getstatic 46, 3) := by decide +kernel
theorem d1_72 : decode method_3_code 72 = .ok (.areturn, 1) := by decide +kernel
theorem d1_73 : decode method_3_code 73 = .ok (.iload_n 0, 1) := by decide +kernel
theorem d1_74 : decode method_3_code 74 = .ok (.bipush 8, 2) := by decide +kernel
theorem d1_76 : decode method_3_code 76 = .ok (.if_icmp .ne 7, 3) := by decide +kernel
theorem d1_79 : decode method_3_code 79 = .ok (.getstatic 49, 3) := by decide +kernel
theorem d1_82 : decode method_3_code 82 = .ok (.areturn, 1) := by decide +kernel
theorem d1_83 : decode method_3_code 83 = .ok (.iload_n 0, 1) := by decide +kernel
theorem d1_84 : decode method_3_code 84 = .ok (.bipush 9, 2) := by decide +kernel
theorem d1_86 : decode method_3_code 86 = .ok (.if_icmp .ne 7, 3) := by decide +kernel
theorem d1_89 : decode method_3_code 89 = .ok (.getstatic 52, 3) := by decide +kernel
theorem d1_92 : decode method_3_code 92 = .ok (.areturn, 1) := by decide +kernel
theorem d1_93 : decode method_3_code 93 = .ok (.iload_n 0, 1) := by decide +kernel
theorem d1_94 : decode method_3_code 94 = .ok (.bipush 10, 2) := by decide +kernel
theorem d1_96 : decode method_3_code 96 = .ok (.if_icmp .ne 7, 3) := by decide +kernel
theorem d1_99 : decode method_3_code 99 = .ok (.getstatic 55, 3) := by decide +kernel
theorem d1_102 : decode method_3_code 102 = .ok (.areturn, 1) := by decide +kernel
theorem d1_103 : decode method_3_code 103 = .ok (.getstatic 58, 3) := by decide +kernel
theorem d1_106 : decode method_3_code 106 = .ok (.areturn, 1) := by decide +kernel
theorem pn_0 : plainName "com/example/cardstand/cardstand/scenario/ResultApprovedInCentsPinLaw" = true := by first | (simp [plainName, overriddenIn]; done) | decide +kernel
def f1 (p0 : Int32) (wAPPROVED : Addr) (wVOICE_APPROVED : Addr) (wINVALID_CARD : Addr) (wREFERRAL : Addr) (wLOST_OR_STOLEN : Addr) (wCREDIT_POSTED : Addr) (wNETWORK_ERROR : Addr) (wPICK_UP : Addr) (wINSUFFICIENT_FUNDS : Addr) (wCSC_FAILED : Addr) (wNETWORK_UNAVAILABLE : Addr) (wPARTIALLY_APPROVED : Addr) : Addr := if p0 = (0 : Int32) then wAPPROVED else if p0 = (1 : Int32) then wVOICE_APPROVED else if p0 = (2 : Int32) then wINVALID_CARD else if p0 = (3 : Int32) then wLOST_OR_STOLEN else if p0 = (4 : Int32) then wREFERRAL else if p0 = (5 : Int32) then wPICK_UP else if p0 = (6 : Int32) then wCSC_FAILED else if p0 = (7 : Int32) then wINSUFFICIENT_FUNDS else if p0 = (8 : Int32) then wNETWORK_UNAVAILABLE else if p0 = (9 : Int32) then wNETWORK_ERROR else if p0 = (10 : Int32) then wPARTIALLY_APPROVED else wCREDIT_POSTED
theorem ef_1 (m : MethodId) (p0 : Int32) : entryFrame m #[(.int p0)] 1 = mkF m 0 #[.val (.int p0)] [] := by first | (simp [entryFrame, mkF, argsToLocals, Value.category]; done) | rfl
def Q1 (Z : State) (p0 : Int32) (wAPPROVED : Addr) (wVOICE_APPROVED : Addr) (wINVALID_CARD : Addr) (wREFERRAL : Addr) (wLOST_OR_STOLEN : Addr) (wCREDIT_POSTED : Addr) (wNETWORK_ERROR : Addr) (wPICK_UP : Addr) (wINSUFFICIENT_FUNDS : Addr) (wCSC_FAILED : Addr) (wNETWORK_UNAVAILABLE : Addr) (wPARTIALLY_APPROVED : Addr) (h0 : Heap) (n0 : Nat) (v : Option Value) (h : Heap) (L : List Loc) : Prop := v = some (.ref (f1 p0 wAPPROVED wVOICE_APPROVED wINVALID_CARD wREFERRAL wLOST_OR_STOLEN wCREDIT_POSTED wNETWORK_ERROR wPICK_UP wINSUFFICIENT_FUNDS wCSC_FAILED wNETWORK_UNAVAILABLE wPARTIALLY_APPROVED)) ∧ Fr n0 L ∧ h = h0
set_option maxRecDepth 65536 in
set_option maxHeartbeats 40000000 in
theorem rm1 (l : Launch) (Z : State) (a0 : Array Value) (hw : ∀ d ∈ tables_1, d.before a0 Z = true) (ws : List Jvm.Cond) (p0 : Int32) (wAPPROVED : Addr) (wVOICE_APPROVED : Addr) (wINVALID_CARD : Addr) (wREFERRAL : Addr) (wLOST_OR_STOLEN : Addr) (wCREDIT_POSTED : Addr) (wNETWORK_ERROR : Addr) (wPICK_UP : Addr) (wINSUFFICIENT_FUNDS : Addr) (wCSC_FAILED : Addr) (wNETWORK_UNAVAILABLE : Addr) (wPARTIALLY_APPROVED : Addr) (h0 : Heap) (n0 : Nat) (Z0 : n0 ≤ h0.size) (W0 : World Z h0 wAPPROVED wVOICE_APPROVED wINVALID_CARD wREFERRAL wLOST_OR_STOLEN wCREDIT_POSTED wNETWORK_ERROR wPICK_UP wINSUFFICIENT_FUNDS wCSC_FAILED wNETWORK_UNAVAILABLE wPARTIALLY_APPROVED) :
    MetFree l (⟨"com/example/cardstand/cardstand/scenario/ResultApprovedInCentsPinLaw", "resultFor", "(I)Lcom/example/cardstand/cardstand/scenario/PaymentAppScenario$Result;"⟩ : MethodName) (head1 (Jvm.Cond.code (⟨"com/example/cardstand/cardstand/scenario/ResultApprovedInCentsPinLaw", "resultFor", "(I)Lcom/example/cardstand/cardstand/scenario/PaymentAppScenario$Result;"⟩ : MethodName) method_3_code 1 (some (.object "com/example/cardstand/cardstand/scenario/PaymentAppScenario$Result")) :: ws) ({ frames := 0, cells := 0, slots := 0, locals := 0 } : Room)) (fun a U => a = #[(.int p0)] ∧ Z.Warmed39 U.vm ∧ U.heap = h0) (fun _ _ _ _ _ => True) (fun _ U o U' => ∃ v L, o = .returned v ∧ Q1 Z p0 wAPPROVED wVOICE_APPROVED wINVALID_CARD wREFERRAL wLOST_OR_STOLEN wCREDIT_POSTED wNETWORK_ERROR wPICK_UP wINSUFFICIENT_FUNDS wCSC_FAILED wNETWORK_UNAVAILABLE wPARTIALLY_APPROVED h0 n0 v U'.heap L ∧ FrameEnd U o U' L ({ frames := 0, cells := 0, slots := 0, locals := 0 } : Room).cells ({ frames := 0, cells := 0, slots := 0, locals := 0 } : Room).slots) := by
  refine MetFree.of_bodySF (plainFor_of_name pn_0) hisR ?_
  intro p e s m args below meth c s₁ Bd hml0 hP hK
  obtain ⟨rfl, hZ, hh⟩ := hP
  have hx := Bd.exec
  have hby := Bd.bytes
  have hml : c.maxLocals = 1 := hml0
  have hown : s.vm.findClass "com/example/cardstand/cardstand/scenario/ResultApprovedInCentsPinLaw" = some m.cls := findClass_of_methodNamed Bd.named
  have X0 : Stand p l e ({ frames := 0, cells := 0, slots := 0, locals := 0 } : Room) s m #[(.int p0)] below meth c s₁ [] 0 0 := Stand.of_body Bd
  have e0 : s₁.heap = h0 := by rw [← hh, Bd.state]; rfl
  have N0 := Fr.nil n0
  have W1 := W0
  obtain ⟨SAPPROVED, EAPPROVED, FAPPROVED_approved, FAPPROVED_heldBackInCents, SVOICE_APPROVED, EVOICE_APPROVED, FVOICE_APPROVED_approved, FVOICE_APPROVED_heldBackInCents, SINVALID_CARD, EINVALID_CARD, FINVALID_CARD_approved, SREFERRAL, EREFERRAL, FREFERRAL_approved, SLOST_OR_STOLEN, ELOST_OR_STOLEN, FLOST_OR_STOLEN_approved, SCREDIT_POSTED, ECREDIT_POSTED, FCREDIT_POSTED_approved, FCREDIT_POSTED_heldBackInCents, SNETWORK_ERROR, ENETWORK_ERROR, FNETWORK_ERROR_approved, SPICK_UP, EPICK_UP, FPICK_UP_approved, SINSUFFICIENT_FUNDS, EINSUFFICIENT_FUNDS, FINSUFFICIENT_FUNDS_approved, SCSC_FAILED, ECSC_FAILED, FCSC_FAILED_approved, SNETWORK_UNAVAILABLE, ENETWORK_UNAVAILABLE, FNETWORK_UNAVAILABLE_approved, SPARTIALLY_APPROVED, EPARTIALLY_APPROVED, FPARTIALLY_APPROVED_approved, FPARTIALLY_APPROVED_heldBackInCents, FINVALID_CARD_heldBackInCents, FREFERRAL_heldBackInCents, FLOST_OR_STOLEN_heldBackInCents, FNETWORK_ERROR_heldBackInCents, FPICK_UP_heldBackInCents, FINSUFFICIENT_FUNDS_heldBackInCents, FCSC_FAILED_heldBackInCents, FNETWORK_UNAVAILABLE_heldBackInCents, -⟩ := W1
  have pre0 : ∀ t, Steps p.tables e below (s₁.setTop (mkF m 0 #[.val (.int p0)] [])) t → Steps p.tables e below (s₁.setTop (entryFrame m #[(.int p0)] 1)) t := fun t k => castTop (ef_1 m p0) k
  have k1 : ∀ t, Steps p.tables e below (s₁.setTop (mkF m 1 #[.val (.int p0)] [(.int p0)])) t → Steps p.tables e below (s₁.setTop (entryFrame m #[(.int p0)] 1)) t := fun t kt => pre0 t (by
    show Steps p.tables e below (s₁.setTop (mkF m 0 #[.val (.int p0)] [])) _
    refine XS.iloadN X0.here hx rfl (hb hby d1_0) rfl ?_
    exact kt)
  by_cases hc2 : p0 = (0 : Int32)
  · obtain ⟨T3, X3, e3, st3⟩ := getS2 X0 hx hZ hown (host := "") (Or.inl (hw _ (List.mem_of_getElem? (i := 5) rfl))) Via.refl e0 SAPPROVED (g := (mkF m 4 #[.val (.int p0)] [])) rfl (hb hby d1_4)
    obtain ⟨fs, hr, hrun, hended, hW, hsame⟩ := X3.leave (v := some (.ref wAPPROVED)) (fun h => by rw [Bd.returns] at h; cases h)
    refine ⟨_, _, k1 _ ?_, hrun, hended, _, _, rfl, ?_, ⟨_, rfl⟩, hW, hsame.mono (by decide) (by decide)⟩
    · show Steps p.tables e below (s₁.setTop (mkF m 1 #[.val (.int p0)] [(.int p0)])) _
      refine XS.ifNo X0.here hx rfl (hb hby d1_1) rfl ((if0 _ _).trans (teq (hc2 : p0 = (0 : Int32))).2) ?_
      show Steps p.tables e below (s₁.setTop (mkF m 4 #[.val (.int p0)] [])) _
      refine st3 _ ?_
      show Steps p.tables e below (T3.setTop (mkF m 7 #[.val (.int p0)] [(.ref wAPPROVED)])) _
      exact own_retA X3 hx Bd.returns rfl rfl (hb hby d1_7) hr
    · show Q1 Z p0 wAPPROVED wVOICE_APPROVED wINVALID_CARD wREFERRAL wLOST_OR_STOLEN wCREDIT_POSTED wNETWORK_ERROR wPICK_UP wINSUFFICIENT_FUNDS wCSC_FAILED wNETWORK_UNAVAILABLE wPARTIALLY_APPROVED h0 n0 _ T3.heap _
      rw [e3]
      exact ⟨by rw [f1, if_pos hc2], N0, rfl⟩
  · have k4 : ∀ t, Steps p.tables e below (s₁.setTop (mkF m 10 #[.val (.int p0)] [(.int (1 : Int32)), (.int p0)])) t → Steps p.tables e below (s₁.setTop (entryFrame m #[(.int p0)] 1)) t := fun t kt => k1 t (by
      show Steps p.tables e below (s₁.setTop (mkF m 1 #[.val (.int p0)] [(.int p0)])) _
      refine XS.ifYes X0.here hx rfl (pc0 := 1) (pc' := 8) rfl (hb hby d1_1) rfl ((if0 _ _).trans (feq (hc2 : ¬ (p0 = (0 : Int32)))).2) (by decide) (by decide) ?_
      show Steps p.tables e below (s₁.setTop (mkF m 8 #[.val (.int p0)] [])) _
      refine XS.iloadN X0.here hx rfl (hb hby d1_8) rfl ?_
      show Steps p.tables e below (s₁.setTop (mkF m 9 #[.val (.int p0)] [(.int p0)])) _
      refine XS.iconst X0.here hx rfl (hb hby d1_9) ?_
      exact kt)
    by_cases hc5 : p0 = (1 : Int32)
    · obtain ⟨T6, X6, e6, st6⟩ := getS2 X0 hx hZ hown (host := "") (Or.inl (hw _ (List.mem_of_getElem? (i := 20) rfl))) Via.refl e0 SVOICE_APPROVED (g := (mkF m 13 #[.val (.int p0)] [])) rfl (hb hby d1_13)
      obtain ⟨fs, hr, hrun, hended, hW, hsame⟩ := X6.leave (v := some (.ref wVOICE_APPROVED)) (fun h => by rw [Bd.returns] at h; cases h)
      refine ⟨_, _, k4 _ ?_, hrun, hended, _, _, rfl, ?_, ⟨_, rfl⟩, hW, hsame.mono (by decide) (by decide)⟩
      · show Steps p.tables e below (s₁.setTop (mkF m 10 #[.val (.int p0)] [(.int (1 : Int32)), (.int p0)])) _
        refine XS.icmpNo X0.here hx rfl (hb hby d1_10) rfl (teq (hc5 : p0 = (1 : Int32))).2 ?_
        show Steps p.tables e below (s₁.setTop (mkF m 13 #[.val (.int p0)] [])) _
        refine st6 _ ?_
        show Steps p.tables e below (T6.setTop (mkF m 16 #[.val (.int p0)] [(.ref wVOICE_APPROVED)])) _
        exact own_retA X6 hx Bd.returns rfl rfl (hb hby d1_16) hr
      · show Q1 Z p0 wAPPROVED wVOICE_APPROVED wINVALID_CARD wREFERRAL wLOST_OR_STOLEN wCREDIT_POSTED wNETWORK_ERROR wPICK_UP wINSUFFICIENT_FUNDS wCSC_FAILED wNETWORK_UNAVAILABLE wPARTIALLY_APPROVED h0 n0 _ T6.heap _
        rw [e6]
        exact ⟨by rw [f1, if_neg hc2, if_pos hc5], N0, rfl⟩
    · have k7 : ∀ t, Steps p.tables e below (s₁.setTop (mkF m 19 #[.val (.int p0)] [(.int (2 : Int32)), (.int p0)])) t → Steps p.tables e below (s₁.setTop (entryFrame m #[(.int p0)] 1)) t := fun t kt => k4 t (by
        show Steps p.tables e below (s₁.setTop (mkF m 10 #[.val (.int p0)] [(.int (1 : Int32)), (.int p0)])) _
        refine XS.icmpYes X0.here hx rfl (pc0 := 10) (pc' := 17) rfl (hb hby d1_10) rfl (feq (hc5 : ¬ (p0 = (1 : Int32)))).2 (by decide) (by decide) ?_
        show Steps p.tables e below (s₁.setTop (mkF m 17 #[.val (.int p0)] [])) _
        refine XS.iloadN X0.here hx rfl (hb hby d1_17) rfl ?_
        show Steps p.tables e below (s₁.setTop (mkF m 18 #[.val (.int p0)] [(.int p0)])) _
        refine XS.iconst X0.here hx rfl (hb hby d1_18) ?_
        exact kt)
      by_cases hc8 : p0 = (2 : Int32)
      · obtain ⟨T9, X9, e9, st9⟩ := getS2 X0 hx hZ hown (host := "") (Or.inl (hw _ (List.mem_of_getElem? (i := 22) rfl))) Via.refl e0 SINVALID_CARD (g := (mkF m 22 #[.val (.int p0)] [])) rfl (hb hby d1_22)
        obtain ⟨fs, hr, hrun, hended, hW, hsame⟩ := X9.leave (v := some (.ref wINVALID_CARD)) (fun h => by rw [Bd.returns] at h; cases h)
        refine ⟨_, _, k7 _ ?_, hrun, hended, _, _, rfl, ?_, ⟨_, rfl⟩, hW, hsame.mono (by decide) (by decide)⟩
        · show Steps p.tables e below (s₁.setTop (mkF m 19 #[.val (.int p0)] [(.int (2 : Int32)), (.int p0)])) _
          refine XS.icmpNo X0.here hx rfl (hb hby d1_19) rfl (teq (hc8 : p0 = (2 : Int32))).2 ?_
          show Steps p.tables e below (s₁.setTop (mkF m 22 #[.val (.int p0)] [])) _
          refine st9 _ ?_
          show Steps p.tables e below (T9.setTop (mkF m 25 #[.val (.int p0)] [(.ref wINVALID_CARD)])) _
          exact own_retA X9 hx Bd.returns rfl rfl (hb hby d1_25) hr
        · show Q1 Z p0 wAPPROVED wVOICE_APPROVED wINVALID_CARD wREFERRAL wLOST_OR_STOLEN wCREDIT_POSTED wNETWORK_ERROR wPICK_UP wINSUFFICIENT_FUNDS wCSC_FAILED wNETWORK_UNAVAILABLE wPARTIALLY_APPROVED h0 n0 _ T9.heap _
          rw [e9]
          exact ⟨by rw [f1, if_neg hc2, if_neg hc5, if_pos hc8], N0, rfl⟩
      · have k10 : ∀ t, Steps p.tables e below (s₁.setTop (mkF m 28 #[.val (.int p0)] [(.int (3 : Int32)), (.int p0)])) t → Steps p.tables e below (s₁.setTop (entryFrame m #[(.int p0)] 1)) t := fun t kt => k7 t (by
          show Steps p.tables e below (s₁.setTop (mkF m 19 #[.val (.int p0)] [(.int (2 : Int32)), (.int p0)])) _
          refine XS.icmpYes X0.here hx rfl (pc0 := 19) (pc' := 26) rfl (hb hby d1_19) rfl (feq (hc8 : ¬ (p0 = (2 : Int32)))).2 (by decide) (by decide) ?_
          show Steps p.tables e below (s₁.setTop (mkF m 26 #[.val (.int p0)] [])) _
          refine XS.iloadN X0.here hx rfl (hb hby d1_26) rfl ?_
          show Steps p.tables e below (s₁.setTop (mkF m 27 #[.val (.int p0)] [(.int p0)])) _
          refine XS.iconst X0.here hx rfl (hb hby d1_27) ?_
          exact kt)
        by_cases hc11 : p0 = (3 : Int32)
        · obtain ⟨T12, X12, e12, st12⟩ := getS2 X0 hx hZ hown (host := "") (Or.inl (hw _ (List.mem_of_getElem? (i := 26) rfl))) Via.refl e0 SLOST_OR_STOLEN (g := (mkF m 31 #[.val (.int p0)] [])) rfl (hb hby d1_31)
          obtain ⟨fs, hr, hrun, hended, hW, hsame⟩ := X12.leave (v := some (.ref wLOST_OR_STOLEN)) (fun h => by rw [Bd.returns] at h; cases h)
          refine ⟨_, _, k10 _ ?_, hrun, hended, _, _, rfl, ?_, ⟨_, rfl⟩, hW, hsame.mono (by decide) (by decide)⟩
          · show Steps p.tables e below (s₁.setTop (mkF m 28 #[.val (.int p0)] [(.int (3 : Int32)), (.int p0)])) _
            refine XS.icmpNo X0.here hx rfl (hb hby d1_28) rfl (teq (hc11 : p0 = (3 : Int32))).2 ?_
            show Steps p.tables e below (s₁.setTop (mkF m 31 #[.val (.int p0)] [])) _
            refine st12 _ ?_
            show Steps p.tables e below (T12.setTop (mkF m 34 #[.val (.int p0)] [(.ref wLOST_OR_STOLEN)])) _
            exact own_retA X12 hx Bd.returns rfl rfl (hb hby d1_34) hr
          · show Q1 Z p0 wAPPROVED wVOICE_APPROVED wINVALID_CARD wREFERRAL wLOST_OR_STOLEN wCREDIT_POSTED wNETWORK_ERROR wPICK_UP wINSUFFICIENT_FUNDS wCSC_FAILED wNETWORK_UNAVAILABLE wPARTIALLY_APPROVED h0 n0 _ T12.heap _
            rw [e12]
            exact ⟨by rw [f1, if_neg hc2, if_neg hc5, if_neg hc8, if_pos hc11], N0, rfl⟩
        · have k13 : ∀ t, Steps p.tables e below (s₁.setTop (mkF m 37 #[.val (.int p0)] [(.int (4 : Int32)), (.int p0)])) t → Steps p.tables e below (s₁.setTop (entryFrame m #[(.int p0)] 1)) t := fun t kt => k10 t (by
            show Steps p.tables e below (s₁.setTop (mkF m 28 #[.val (.int p0)] [(.int (3 : Int32)), (.int p0)])) _
            refine XS.icmpYes X0.here hx rfl (pc0 := 28) (pc' := 35) rfl (hb hby d1_28) rfl (feq (hc11 : ¬ (p0 = (3 : Int32)))).2 (by decide) (by decide) ?_
            show Steps p.tables e below (s₁.setTop (mkF m 35 #[.val (.int p0)] [])) _
            refine XS.iloadN X0.here hx rfl (hb hby d1_35) rfl ?_
            show Steps p.tables e below (s₁.setTop (mkF m 36 #[.val (.int p0)] [(.int p0)])) _
            refine XS.iconst X0.here hx rfl (hb hby d1_36) ?_
            exact kt)
          by_cases hc14 : p0 = (4 : Int32)
          · obtain ⟨T15, X15, e15, st15⟩ := getS2 X0 hx hZ hown (host := "") (Or.inl (hw _ (List.mem_of_getElem? (i := 24) rfl))) Via.refl e0 SREFERRAL (g := (mkF m 40 #[.val (.int p0)] [])) rfl (hb hby d1_40)
            obtain ⟨fs, hr, hrun, hended, hW, hsame⟩ := X15.leave (v := some (.ref wREFERRAL)) (fun h => by rw [Bd.returns] at h; cases h)
            refine ⟨_, _, k13 _ ?_, hrun, hended, _, _, rfl, ?_, ⟨_, rfl⟩, hW, hsame.mono (by decide) (by decide)⟩
            · show Steps p.tables e below (s₁.setTop (mkF m 37 #[.val (.int p0)] [(.int (4 : Int32)), (.int p0)])) _
              refine XS.icmpNo X0.here hx rfl (hb hby d1_37) rfl (teq (hc14 : p0 = (4 : Int32))).2 ?_
              show Steps p.tables e below (s₁.setTop (mkF m 40 #[.val (.int p0)] [])) _
              refine st15 _ ?_
              show Steps p.tables e below (T15.setTop (mkF m 43 #[.val (.int p0)] [(.ref wREFERRAL)])) _
              exact own_retA X15 hx Bd.returns rfl rfl (hb hby d1_43) hr
            · show Q1 Z p0 wAPPROVED wVOICE_APPROVED wINVALID_CARD wREFERRAL wLOST_OR_STOLEN wCREDIT_POSTED wNETWORK_ERROR wPICK_UP wINSUFFICIENT_FUNDS wCSC_FAILED wNETWORK_UNAVAILABLE wPARTIALLY_APPROVED h0 n0 _ T15.heap _
              rw [e15]
              exact ⟨by rw [f1, if_neg hc2, if_neg hc5, if_neg hc8, if_neg hc11, if_pos hc14], N0, rfl⟩
          · have k16 : ∀ t, Steps p.tables e below (s₁.setTop (mkF m 46 #[.val (.int p0)] [(.int (5 : Int32)), (.int p0)])) t → Steps p.tables e below (s₁.setTop (entryFrame m #[(.int p0)] 1)) t := fun t kt => k13 t (by
              show Steps p.tables e below (s₁.setTop (mkF m 37 #[.val (.int p0)] [(.int (4 : Int32)), (.int p0)])) _
              refine XS.icmpYes X0.here hx rfl (pc0 := 37) (pc' := 44) rfl (hb hby d1_37) rfl (feq (hc14 : ¬ (p0 = (4 : Int32)))).2 (by decide) (by decide) ?_
              show Steps p.tables e below (s₁.setTop (mkF m 44 #[.val (.int p0)] [])) _
              refine XS.iloadN X0.here hx rfl (hb hby d1_44) rfl ?_
              show Steps p.tables e below (s₁.setTop (mkF m 45 #[.val (.int p0)] [(.int p0)])) _
              refine XS.iconst X0.here hx rfl (hb hby d1_45) ?_
              exact kt)
            by_cases hc17 : p0 = (5 : Int32)
            · obtain ⟨T18, X18, e18, st18⟩ := getS2 X0 hx hZ hown (host := "") (Or.inl (hw _ (List.mem_of_getElem? (i := 32) rfl))) Via.refl e0 SPICK_UP (g := (mkF m 49 #[.val (.int p0)] [])) rfl (hb hby d1_49)
              obtain ⟨fs, hr, hrun, hended, hW, hsame⟩ := X18.leave (v := some (.ref wPICK_UP)) (fun h => by rw [Bd.returns] at h; cases h)
              refine ⟨_, _, k16 _ ?_, hrun, hended, _, _, rfl, ?_, ⟨_, rfl⟩, hW, hsame.mono (by decide) (by decide)⟩
              · show Steps p.tables e below (s₁.setTop (mkF m 46 #[.val (.int p0)] [(.int (5 : Int32)), (.int p0)])) _
                refine XS.icmpNo X0.here hx rfl (hb hby d1_46) rfl (teq (hc17 : p0 = (5 : Int32))).2 ?_
                show Steps p.tables e below (s₁.setTop (mkF m 49 #[.val (.int p0)] [])) _
                refine st18 _ ?_
                show Steps p.tables e below (T18.setTop (mkF m 52 #[.val (.int p0)] [(.ref wPICK_UP)])) _
                exact own_retA X18 hx Bd.returns rfl rfl (hb hby d1_52) hr
              · show Q1 Z p0 wAPPROVED wVOICE_APPROVED wINVALID_CARD wREFERRAL wLOST_OR_STOLEN wCREDIT_POSTED wNETWORK_ERROR wPICK_UP wINSUFFICIENT_FUNDS wCSC_FAILED wNETWORK_UNAVAILABLE wPARTIALLY_APPROVED h0 n0 _ T18.heap _
                rw [e18]
                exact ⟨by rw [f1, if_neg hc2, if_neg hc5, if_neg hc8, if_neg hc11, if_neg hc14, if_pos hc17], N0, rfl⟩
            · have k19 : ∀ t, Steps p.tables e below (s₁.setTop (mkF m 56 #[.val (.int p0)] [(.int (6 : Int32)), (.int p0)])) t → Steps p.tables e below (s₁.setTop (entryFrame m #[(.int p0)] 1)) t := fun t kt => k16 t (by
                show Steps p.tables e below (s₁.setTop (mkF m 46 #[.val (.int p0)] [(.int (5 : Int32)), (.int p0)])) _
                refine XS.icmpYes X0.here hx rfl (pc0 := 46) (pc' := 53) rfl (hb hby d1_46) rfl (feq (hc17 : ¬ (p0 = (5 : Int32)))).2 (by decide) (by decide) ?_
                show Steps p.tables e below (s₁.setTop (mkF m 53 #[.val (.int p0)] [])) _
                refine XS.iloadN X0.here hx rfl (hb hby d1_53) rfl ?_
                show Steps p.tables e below (s₁.setTop (mkF m 54 #[.val (.int p0)] [(.int p0)])) _
                refine XS.bipush X0.here hx rfl (hb hby d1_54) ?_
                exact kt)
              by_cases hc20 : p0 = (6 : Int32)
              · obtain ⟨T21, X21, e21, st21⟩ := getS2 X0 hx hZ hown (host := "") (Or.inl (hw _ (List.mem_of_getElem? (i := 36) rfl))) Via.refl e0 SCSC_FAILED (g := (mkF m 59 #[.val (.int p0)] [])) rfl (hb hby d1_59)
                obtain ⟨fs, hr, hrun, hended, hW, hsame⟩ := X21.leave (v := some (.ref wCSC_FAILED)) (fun h => by rw [Bd.returns] at h; cases h)
                refine ⟨_, _, k19 _ ?_, hrun, hended, _, _, rfl, ?_, ⟨_, rfl⟩, hW, hsame.mono (by decide) (by decide)⟩
                · show Steps p.tables e below (s₁.setTop (mkF m 56 #[.val (.int p0)] [(.int (6 : Int32)), (.int p0)])) _
                  refine XS.icmpNo X0.here hx rfl (hb hby d1_56) rfl (teq (hc20 : p0 = (6 : Int32))).2 ?_
                  show Steps p.tables e below (s₁.setTop (mkF m 59 #[.val (.int p0)] [])) _
                  refine st21 _ ?_
                  show Steps p.tables e below (T21.setTop (mkF m 62 #[.val (.int p0)] [(.ref wCSC_FAILED)])) _
                  exact own_retA X21 hx Bd.returns rfl rfl (hb hby d1_62) hr
                · show Q1 Z p0 wAPPROVED wVOICE_APPROVED wINVALID_CARD wREFERRAL wLOST_OR_STOLEN wCREDIT_POSTED wNETWORK_ERROR wPICK_UP wINSUFFICIENT_FUNDS wCSC_FAILED wNETWORK_UNAVAILABLE wPARTIALLY_APPROVED h0 n0 _ T21.heap _
                  rw [e21]
                  exact ⟨by rw [f1, if_neg hc2, if_neg hc5, if_neg hc8, if_neg hc11, if_neg hc14, if_neg hc17, if_pos hc20], N0, rfl⟩
              · have k22 : ∀ t, Steps p.tables e below (s₁.setTop (mkF m 66 #[.val (.int p0)] [(.int (7 : Int32)), (.int p0)])) t → Steps p.tables e below (s₁.setTop (entryFrame m #[(.int p0)] 1)) t := fun t kt => k19 t (by
                  show Steps p.tables e below (s₁.setTop (mkF m 56 #[.val (.int p0)] [(.int (6 : Int32)), (.int p0)])) _
                  refine XS.icmpYes X0.here hx rfl (pc0 := 56) (pc' := 63) rfl (hb hby d1_56) rfl (feq (hc20 : ¬ (p0 = (6 : Int32)))).2 (by decide) (by decide) ?_
                  show Steps p.tables e below (s₁.setTop (mkF m 63 #[.val (.int p0)] [])) _
                  refine XS.iloadN X0.here hx rfl (hb hby d1_63) rfl ?_
                  show Steps p.tables e below (s₁.setTop (mkF m 64 #[.val (.int p0)] [(.int p0)])) _
                  refine XS.bipush X0.here hx rfl (hb hby d1_64) ?_
                  exact kt)
                by_cases hc23 : p0 = (7 : Int32)
                · obtain ⟨T24, X24, e24, st24⟩ := getS2 X0 hx hZ hown (host := "") (Or.inl (hw _ (List.mem_of_getElem? (i := 34) rfl))) Via.refl e0 SINSUFFICIENT_FUNDS (g := (mkF m 69 #[.val (.int p0)] [])) rfl (hb hby d1_69)
                  obtain ⟨fs, hr, hrun, hended, hW, hsame⟩ := X24.leave (v := some (.ref wINSUFFICIENT_FUNDS)) (fun h => by rw [Bd.returns] at h; cases h)
                  refine ⟨_, _, k22 _ ?_, hrun, hended, _, _, rfl, ?_, ⟨_, rfl⟩, hW, hsame.mono (by decide) (by decide)⟩
                  · show Steps p.tables e below (s₁.setTop (mkF m 66 #[.val (.int p0)] [(.int (7 : Int32)), (.int p0)])) _
                    refine XS.icmpNo X0.here hx rfl (hb hby d1_66) rfl (teq (hc23 : p0 = (7 : Int32))).2 ?_
                    show Steps p.tables e below (s₁.setTop (mkF m 69 #[.val (.int p0)] [])) _
                    refine st24 _ ?_
                    show Steps p.tables e below (T24.setTop (mkF m 72 #[.val (.int p0)] [(.ref wINSUFFICIENT_FUNDS)])) _
                    exact own_retA X24 hx Bd.returns rfl rfl (hb hby d1_72) hr
                  · show Q1 Z p0 wAPPROVED wVOICE_APPROVED wINVALID_CARD wREFERRAL wLOST_OR_STOLEN wCREDIT_POSTED wNETWORK_ERROR wPICK_UP wINSUFFICIENT_FUNDS wCSC_FAILED wNETWORK_UNAVAILABLE wPARTIALLY_APPROVED h0 n0 _ T24.heap _
                    rw [e24]
                    exact ⟨by rw [f1, if_neg hc2, if_neg hc5, if_neg hc8, if_neg hc11, if_neg hc14, if_neg hc17, if_neg hc20, if_pos hc23], N0, rfl⟩
                · have k25 : ∀ t, Steps p.tables e below (s₁.setTop (mkF m 76 #[.val (.int p0)] [(.int (8 : Int32)), (.int p0)])) t → Steps p.tables e below (s₁.setTop (entryFrame m #[(.int p0)] 1)) t := fun t kt => k22 t (by
                    show Steps p.tables e below (s₁.setTop (mkF m 66 #[.val (.int p0)] [(.int (7 : Int32)), (.int p0)])) _
                    refine XS.icmpYes X0.here hx rfl (pc0 := 66) (pc' := 73) rfl (hb hby d1_66) rfl (feq (hc23 : ¬ (p0 = (7 : Int32)))).2 (by decide) (by decide) ?_
                    show Steps p.tables e below (s₁.setTop (mkF m 73 #[.val (.int p0)] [])) _
                    refine XS.iloadN X0.here hx rfl (hb hby d1_73) rfl ?_
                    show Steps p.tables e below (s₁.setTop (mkF m 74 #[.val (.int p0)] [(.int p0)])) _
                    refine XS.bipush X0.here hx rfl (hb hby d1_74) ?_
                    exact kt)
                  by_cases hc26 : p0 = (8 : Int32)
                  · obtain ⟨T27, X27, e27, st27⟩ := getS2 X0 hx hZ hown (host := "") (Or.inl (hw _ (List.mem_of_getElem? (i := 38) rfl))) Via.refl e0 SNETWORK_UNAVAILABLE (g := (mkF m 79 #[.val (.int p0)] [])) rfl (hb hby d1_79)
                    obtain ⟨fs, hr, hrun, hended, hW, hsame⟩ := X27.leave (v := some (.ref wNETWORK_UNAVAILABLE)) (fun h => by rw [Bd.returns] at h; cases h)
                    refine ⟨_, _, k25 _ ?_, hrun, hended, _, _, rfl, ?_, ⟨_, rfl⟩, hW, hsame.mono (by decide) (by decide)⟩
                    · show Steps p.tables e below (s₁.setTop (mkF m 76 #[.val (.int p0)] [(.int (8 : Int32)), (.int p0)])) _
                      refine XS.icmpNo X0.here hx rfl (hb hby d1_76) rfl (teq (hc26 : p0 = (8 : Int32))).2 ?_
                      show Steps p.tables e below (s₁.setTop (mkF m 79 #[.val (.int p0)] [])) _
                      refine st27 _ ?_
                      show Steps p.tables e below (T27.setTop (mkF m 82 #[.val (.int p0)] [(.ref wNETWORK_UNAVAILABLE)])) _
                      exact own_retA X27 hx Bd.returns rfl rfl (hb hby d1_82) hr
                    · show Q1 Z p0 wAPPROVED wVOICE_APPROVED wINVALID_CARD wREFERRAL wLOST_OR_STOLEN wCREDIT_POSTED wNETWORK_ERROR wPICK_UP wINSUFFICIENT_FUNDS wCSC_FAILED wNETWORK_UNAVAILABLE wPARTIALLY_APPROVED h0 n0 _ T27.heap _
                      rw [e27]
                      exact ⟨by rw [f1, if_neg hc2, if_neg hc5, if_neg hc8, if_neg hc11, if_neg hc14, if_neg hc17, if_neg hc20, if_neg hc23, if_pos hc26], N0, rfl⟩
                  · have k28 : ∀ t, Steps p.tables e below (s₁.setTop (mkF m 86 #[.val (.int p0)] [(.int (9 : Int32)), (.int p0)])) t → Steps p.tables e below (s₁.setTop (entryFrame m #[(.int p0)] 1)) t := fun t kt => k25 t (by
                      show Steps p.tables e below (s₁.setTop (mkF m 76 #[.val (.int p0)] [(.int (8 : Int32)), (.int p0)])) _
                      refine XS.icmpYes X0.here hx rfl (pc0 := 76) (pc' := 83) rfl (hb hby d1_76) rfl (feq (hc26 : ¬ (p0 = (8 : Int32)))).2 (by decide) (by decide) ?_
                      show Steps p.tables e below (s₁.setTop (mkF m 83 #[.val (.int p0)] [])) _
                      refine XS.iloadN X0.here hx rfl (hb hby d1_83) rfl ?_
                      show Steps p.tables e below (s₁.setTop (mkF m 84 #[.val (.int p0)] [(.int p0)])) _
                      refine XS.bipush X0.here hx rfl (hb hby d1_84) ?_
                      exact kt)
                    by_cases hc29 : p0 = (9 : Int32)
                    · obtain ⟨T30, X30, e30, st30⟩ := getS2 X0 hx hZ hown (host := "") (Or.inl (hw _ (List.mem_of_getElem? (i := 30) rfl))) Via.refl e0 SNETWORK_ERROR (g := (mkF m 89 #[.val (.int p0)] [])) rfl (hb hby d1_89)
                      obtain ⟨fs, hr, hrun, hended, hW, hsame⟩ := X30.leave (v := some (.ref wNETWORK_ERROR)) (fun h => by rw [Bd.returns] at h; cases h)
                      refine ⟨_, _, k28 _ ?_, hrun, hended, _, _, rfl, ?_, ⟨_, rfl⟩, hW, hsame.mono (by decide) (by decide)⟩
                      · show Steps p.tables e below (s₁.setTop (mkF m 86 #[.val (.int p0)] [(.int (9 : Int32)), (.int p0)])) _
                        refine XS.icmpNo X0.here hx rfl (hb hby d1_86) rfl (teq (hc29 : p0 = (9 : Int32))).2 ?_
                        show Steps p.tables e below (s₁.setTop (mkF m 89 #[.val (.int p0)] [])) _
                        refine st30 _ ?_
                        show Steps p.tables e below (T30.setTop (mkF m 92 #[.val (.int p0)] [(.ref wNETWORK_ERROR)])) _
                        exact own_retA X30 hx Bd.returns rfl rfl (hb hby d1_92) hr
                      · show Q1 Z p0 wAPPROVED wVOICE_APPROVED wINVALID_CARD wREFERRAL wLOST_OR_STOLEN wCREDIT_POSTED wNETWORK_ERROR wPICK_UP wINSUFFICIENT_FUNDS wCSC_FAILED wNETWORK_UNAVAILABLE wPARTIALLY_APPROVED h0 n0 _ T30.heap _
                        rw [e30]
                        exact ⟨by rw [f1, if_neg hc2, if_neg hc5, if_neg hc8, if_neg hc11, if_neg hc14, if_neg hc17, if_neg hc20, if_neg hc23, if_neg hc26, if_pos hc29], N0, rfl⟩
                    · have k31 : ∀ t, Steps p.tables e below (s₁.setTop (mkF m 96 #[.val (.int p0)] [(.int (10 : Int32)), (.int p0)])) t → Steps p.tables e below (s₁.setTop (entryFrame m #[(.int p0)] 1)) t := fun t kt => k28 t (by
                        show Steps p.tables e below (s₁.setTop (mkF m 86 #[.val (.int p0)] [(.int (9 : Int32)), (.int p0)])) _
                        refine XS.icmpYes X0.here hx rfl (pc0 := 86) (pc' := 93) rfl (hb hby d1_86) rfl (feq (hc29 : ¬ (p0 = (9 : Int32)))).2 (by decide) (by decide) ?_
                        show Steps p.tables e below (s₁.setTop (mkF m 93 #[.val (.int p0)] [])) _
                        refine XS.iloadN X0.here hx rfl (hb hby d1_93) rfl ?_
                        show Steps p.tables e below (s₁.setTop (mkF m 94 #[.val (.int p0)] [(.int p0)])) _
                        refine XS.bipush X0.here hx rfl (hb hby d1_94) ?_
                        exact kt)
                      by_cases hc32 : p0 = (10 : Int32)
                      · obtain ⟨T33, X33, e33, st33⟩ := getS2 X0 hx hZ hown (host := "") (Or.inl (hw _ (List.mem_of_getElem? (i := 40) rfl))) Via.refl e0 SPARTIALLY_APPROVED (g := (mkF m 99 #[.val (.int p0)] [])) rfl (hb hby d1_99)
                        obtain ⟨fs, hr, hrun, hended, hW, hsame⟩ := X33.leave (v := some (.ref wPARTIALLY_APPROVED)) (fun h => by rw [Bd.returns] at h; cases h)
                        refine ⟨_, _, k31 _ ?_, hrun, hended, _, _, rfl, ?_, ⟨_, rfl⟩, hW, hsame.mono (by decide) (by decide)⟩
                        · show Steps p.tables e below (s₁.setTop (mkF m 96 #[.val (.int p0)] [(.int (10 : Int32)), (.int p0)])) _
                          refine XS.icmpNo X0.here hx rfl (hb hby d1_96) rfl (teq (hc32 : p0 = (10 : Int32))).2 ?_
                          show Steps p.tables e below (s₁.setTop (mkF m 99 #[.val (.int p0)] [])) _
                          refine st33 _ ?_
                          show Steps p.tables e below (T33.setTop (mkF m 102 #[.val (.int p0)] [(.ref wPARTIALLY_APPROVED)])) _
                          exact own_retA X33 hx Bd.returns rfl rfl (hb hby d1_102) hr
                        · show Q1 Z p0 wAPPROVED wVOICE_APPROVED wINVALID_CARD wREFERRAL wLOST_OR_STOLEN wCREDIT_POSTED wNETWORK_ERROR wPICK_UP wINSUFFICIENT_FUNDS wCSC_FAILED wNETWORK_UNAVAILABLE wPARTIALLY_APPROVED h0 n0 _ T33.heap _
                          rw [e33]
                          exact ⟨by rw [f1, if_neg hc2, if_neg hc5, if_neg hc8, if_neg hc11, if_neg hc14, if_neg hc17, if_neg hc20, if_neg hc23, if_neg hc26, if_neg hc29, if_pos hc32], N0, rfl⟩
                      · obtain ⟨T34, X34, e34, st34⟩ := getS2 X0 hx hZ hown (host := "") (Or.inl (hw _ (List.mem_of_getElem? (i := 28) rfl))) Via.refl e0 SCREDIT_POSTED (g := (mkF m 103 #[.val (.int p0)] [])) rfl (hb hby d1_103)
                        obtain ⟨fs, hr, hrun, hended, hW, hsame⟩ := X34.leave (v := some (.ref wCREDIT_POSTED)) (fun h => by rw [Bd.returns] at h; cases h)
                        refine ⟨_, _, k31 _ ?_, hrun, hended, _, _, rfl, ?_, ⟨_, rfl⟩, hW, hsame.mono (by decide) (by decide)⟩
                        · show Steps p.tables e below (s₁.setTop (mkF m 96 #[.val (.int p0)] [(.int (10 : Int32)), (.int p0)])) _
                          refine XS.icmpYes X0.here hx rfl (pc0 := 96) (pc' := 103) rfl (hb hby d1_96) rfl (feq (hc32 : ¬ (p0 = (10 : Int32)))).2 (by decide) (by decide) ?_
                          show Steps p.tables e below (s₁.setTop (mkF m 103 #[.val (.int p0)] [])) _
                          refine st34 _ ?_
                          show Steps p.tables e below (T34.setTop (mkF m 106 #[.val (.int p0)] [(.ref wCREDIT_POSTED)])) _
                          exact own_retA X34 hx Bd.returns rfl rfl (hb hby d1_106) hr
                        · show Q1 Z p0 wAPPROVED wVOICE_APPROVED wINVALID_CARD wREFERRAL wLOST_OR_STOLEN wCREDIT_POSTED wNETWORK_ERROR wPICK_UP wINSUFFICIENT_FUNDS wCSC_FAILED wNETWORK_UNAVAILABLE wPARTIALLY_APPROVED h0 n0 _ T34.heap _
                          rw [e34]
                          exact ⟨by rw [f1, if_neg hc2, if_neg hc5, if_neg hc8, if_neg hc11, if_neg hc14, if_neg hc17, if_neg hc20, if_neg hc23, if_neg hc26, if_neg hc29, if_neg hc32], N0, rfl⟩
theorem d2_0 : decode method_4_code 0 = .ok (.iload_n 0, 1) := by decide +kernel
theorem d2_1 : decode method_4_code 1 = .ok (.ifCond .eq 14, 3) := by decide +kernel
theorem d2_15 : decode method_4_code 15 = .ok (.lload_n 1, 1) := by decide +kernel
theorem d2_16 : decode method_4_code 16 = .ok (.lreturn, 1) := by decide +kernel
theorem d2_4 : decode method_4_code 4 = .ok (.iload_n 0, 1) := by decide +kernel
theorem d2_5 : decode method_4_code 5 = .ok (.iconst 1, 1) := by decide +kernel
theorem d2_6 : decode method_4_code 6 = .ok (.if_icmp .eq 9, 3) := by decide +kernel
theorem d2_9 : decode method_4_code 9 = .ok (.iload_n 0, 1) := by decide +kernel
theorem d2_10 : decode method_4_code 10 = .ok (.bipush 11, 2) := by decide +kernel
theorem d2_12 : decode method_4_code 12 = .ok (.if_icmp .ne 5, 3) := by decide +kernel
theorem d2_17 : decode method_4_code 17 = .ok (.iload_n 0, 1) := by decide +kernel
theorem d2_18 : decode method_4_code 18 = .ok (.bipush 10, 2) := by decide +kernel
theorem d2_20 : decode method_4_code 20 = .ok (.if_icmp .ne 9, 3) := by decide +kernel
theorem d2_23 : decode method_4_code 23 = .ok (.lload_n 1, 1) := by decide +kernel
theorem d2_24 : decode method_4_code 24 = .ok (.ldc2_w 61, 3) := by decide +kernel
theorem d2_27 : decode method_4_code 27 = .ok (.lsub, 1) := by decide +kernel
theorem d2_28 : decode method_4_code 28 = .ok (.lreturn, 1) := by decide +kernel
theorem d2_29 : decode method_4_code 29 = .ok (.lconst 0, 1) := by decide +kernel
theorem d2_30 : decode method_4_code 30 = .ok (.lreturn, 1) := by decide +kernel
def f2 (p0 : Int32) (p1 : Int64) : Int64 := if p0 = (0 : Int32) then p1 else if p0 = (1 : Int32) then p1 else if p0 = (11 : Int32) then p1 else if p0 = (10 : Int32) then (p1 - (1000 : Int64)) else (0 : Int64)
theorem ef_2 (m : MethodId) (p0 : Int32) (p1 : Int64) : entryFrame m #[(.int p0), (.long p1)] 3 = mkF m 0 #[.val (.int p0), .val (.long p1), .second] [] := by first | (simp [entryFrame, mkF, argsToLocals, Value.category]; done) | rfl
def Q2 (Z : State) (p0 : Int32) (p1 : Int64) (h0 : Heap) (n0 : Nat) (v : Option Value) (h : Heap) (L : List Loc) : Prop := v = some (.long (f2 p0 p1)) ∧ Fr n0 L ∧ h = h0
set_option maxRecDepth 65536 in
set_option maxHeartbeats 40000000 in
theorem rm2 (l : Launch) (Z : State) (a0 : Array Value) (hw : ∀ d ∈ tables_1, d.before a0 Z = true) (ws : List Jvm.Cond) (p0 : Int32) (p1 : Int64) (h0 : Heap) (n0 : Nat) (Z0 : n0 ≤ h0.size) :
    MetFree l (⟨"com/example/cardstand/cardstand/scenario/ResultApprovedInCentsPinLaw", "expectedFor", "(IJ)J"⟩ : MethodName) (head1 (Jvm.Cond.code (⟨"com/example/cardstand/cardstand/scenario/ResultApprovedInCentsPinLaw", "expectedFor", "(IJ)J"⟩ : MethodName) method_4_code 3 (some .long) :: ws) ({ frames := 0, cells := 0, slots := 0, locals := 0 } : Room)) (fun a U => a = #[(.int p0), (.long p1)] ∧ Z.Warmed39 U.vm ∧ U.heap = h0) (fun _ _ _ _ _ => True) (fun _ U o U' => ∃ v L, o = .returned v ∧ Q2 Z p0 p1 h0 n0 v U'.heap L ∧ FrameEnd U o U' L ({ frames := 0, cells := 0, slots := 0, locals := 0 } : Room).cells ({ frames := 0, cells := 0, slots := 0, locals := 0 } : Room).slots) := by
  refine MetFree.of_bodySF (plainFor_of_name pn_0) hisR ?_
  intro p e s m args below meth c s₁ Bd hml0 hP hK
  obtain ⟨rfl, hZ, hh⟩ := hP
  have hx := Bd.exec
  have hby := Bd.bytes
  have hml : c.maxLocals = 3 := hml0
  have hown : s.vm.findClass "com/example/cardstand/cardstand/scenario/ResultApprovedInCentsPinLaw" = some m.cls := findClass_of_methodNamed Bd.named
  have X0 : Stand p l e ({ frames := 0, cells := 0, slots := 0, locals := 0 } : Room) s m #[(.int p0), (.long p1)] below meth c s₁ [] 0 0 := Stand.of_body Bd
  have e0 : s₁.heap = h0 := by rw [← hh, Bd.state]; rfl
  have N0 := Fr.nil n0
  have pre0 : ∀ t, Steps p.tables e below (s₁.setTop (mkF m 0 #[.val (.int p0), .val (.long p1), .second] [])) t → Steps p.tables e below (s₁.setTop (entryFrame m #[(.int p0), (.long p1)] 3)) t := fun t k => castTop (ef_2 m p0 p1) k
  have k35 : ∀ t, Steps p.tables e below (s₁.setTop (mkF m 1 #[.val (.int p0), .val (.long p1), .second] [(.int p0)])) t → Steps p.tables e below (s₁.setTop (entryFrame m #[(.int p0), (.long p1)] 3)) t := fun t kt => pre0 t (by
    show Steps p.tables e below (s₁.setTop (mkF m 0 #[.val (.int p0), .val (.long p1), .second] [])) _
    refine XS.iloadN X0.here hx rfl (hb hby d2_0) rfl ?_
    exact kt)
  by_cases hc36 : p0 = (0 : Int32)
  · obtain ⟨fs, hr, hrun, hended, hW, hsame⟩ := X0.leave (v := some (.long p1)) (fun h => by rw [Bd.returns] at h; cases h)
    refine ⟨_, _, k35 _ ?_, hrun, hended, _, _, rfl, ?_, ⟨_, rfl⟩, hW, hsame.mono (by decide) (by decide)⟩
    · show Steps p.tables e below (s₁.setTop (mkF m 1 #[.val (.int p0), .val (.long p1), .second] [(.int p0)])) _
      refine XS.ifYes X0.here hx rfl (pc0 := 1) (pc' := 15) rfl (hb hby d2_1) rfl ((if0 _ _).trans (teq (hc36 : p0 = (0 : Int32))).1) (by decide) (by decide) ?_
      show Steps p.tables e below (s₁.setTop (mkF m 15 #[.val (.int p0), .val (.long p1), .second] [])) _
      refine XS.lloadN X0.here hx rfl (hb hby d2_15) rfl ?_
      show Steps p.tables e below (s₁.setTop (mkF m 16 #[.val (.int p0), .val (.long p1), .second] [(.long p1)])) _
      exact own_retL X0 hx Bd.returns (hb hby d2_16) hr
    · show Q2 Z p0 p1 h0 n0 _ s₁.heap _
      rw [e0]
      exact ⟨by rw [f2, if_pos hc36], N0, rfl⟩
  · have k37 : ∀ t, Steps p.tables e below (s₁.setTop (mkF m 6 #[.val (.int p0), .val (.long p1), .second] [(.int (1 : Int32)), (.int p0)])) t → Steps p.tables e below (s₁.setTop (entryFrame m #[(.int p0), (.long p1)] 3)) t := fun t kt => k35 t (by
      show Steps p.tables e below (s₁.setTop (mkF m 1 #[.val (.int p0), .val (.long p1), .second] [(.int p0)])) _
      refine XS.ifNo X0.here hx rfl (hb hby d2_1) rfl ((if0 _ _).trans (feq (hc36 : ¬ (p0 = (0 : Int32)))).1) ?_
      show Steps p.tables e below (s₁.setTop (mkF m 4 #[.val (.int p0), .val (.long p1), .second] [])) _
      refine XS.iloadN X0.here hx rfl (hb hby d2_4) rfl ?_
      show Steps p.tables e below (s₁.setTop (mkF m 5 #[.val (.int p0), .val (.long p1), .second] [(.int p0)])) _
      refine XS.iconst X0.here hx rfl (hb hby d2_5) ?_
      exact kt)
    by_cases hc38 : p0 = (1 : Int32)
    · obtain ⟨fs, hr, hrun, hended, hW, hsame⟩ := X0.leave (v := some (.long p1)) (fun h => by rw [Bd.returns] at h; cases h)
      refine ⟨_, _, k37 _ ?_, hrun, hended, _, _, rfl, ?_, ⟨_, rfl⟩, hW, hsame.mono (by decide) (by decide)⟩
      · show Steps p.tables e below (s₁.setTop (mkF m 6 #[.val (.int p0), .val (.long p1), .second] [(.int (1 : Int32)), (.int p0)])) _
        refine XS.icmpYes X0.here hx rfl (pc0 := 6) (pc' := 15) rfl (hb hby d2_6) rfl (teq (hc38 : p0 = (1 : Int32))).1 (by decide) (by decide) ?_
        show Steps p.tables e below (s₁.setTop (mkF m 15 #[.val (.int p0), .val (.long p1), .second] [])) _
        refine XS.lloadN X0.here hx rfl (hb hby d2_15) rfl ?_
        show Steps p.tables e below (s₁.setTop (mkF m 16 #[.val (.int p0), .val (.long p1), .second] [(.long p1)])) _
        exact own_retL X0 hx Bd.returns (hb hby d2_16) hr
      · show Q2 Z p0 p1 h0 n0 _ s₁.heap _
        rw [e0]
        exact ⟨by rw [f2, if_neg hc36, if_pos hc38], N0, rfl⟩
    · have k39 : ∀ t, Steps p.tables e below (s₁.setTop (mkF m 12 #[.val (.int p0), .val (.long p1), .second] [(.int (11 : Int32)), (.int p0)])) t → Steps p.tables e below (s₁.setTop (entryFrame m #[(.int p0), (.long p1)] 3)) t := fun t kt => k37 t (by
        show Steps p.tables e below (s₁.setTop (mkF m 6 #[.val (.int p0), .val (.long p1), .second] [(.int (1 : Int32)), (.int p0)])) _
        refine XS.icmpNo X0.here hx rfl (hb hby d2_6) rfl (feq (hc38 : ¬ (p0 = (1 : Int32)))).1 ?_
        show Steps p.tables e below (s₁.setTop (mkF m 9 #[.val (.int p0), .val (.long p1), .second] [])) _
        refine XS.iloadN X0.here hx rfl (hb hby d2_9) rfl ?_
        show Steps p.tables e below (s₁.setTop (mkF m 10 #[.val (.int p0), .val (.long p1), .second] [(.int p0)])) _
        refine XS.bipush X0.here hx rfl (hb hby d2_10) ?_
        exact kt)
      by_cases hc40 : p0 = (11 : Int32)
      · obtain ⟨fs, hr, hrun, hended, hW, hsame⟩ := X0.leave (v := some (.long p1)) (fun h => by rw [Bd.returns] at h; cases h)
        refine ⟨_, _, k39 _ ?_, hrun, hended, _, _, rfl, ?_, ⟨_, rfl⟩, hW, hsame.mono (by decide) (by decide)⟩
        · show Steps p.tables e below (s₁.setTop (mkF m 12 #[.val (.int p0), .val (.long p1), .second] [(.int (11 : Int32)), (.int p0)])) _
          refine XS.icmpNo X0.here hx rfl (hb hby d2_12) rfl (teq (hc40 : p0 = (11 : Int32))).2 ?_
          show Steps p.tables e below (s₁.setTop (mkF m 15 #[.val (.int p0), .val (.long p1), .second] [])) _
          refine XS.lloadN X0.here hx rfl (hb hby d2_15) rfl ?_
          show Steps p.tables e below (s₁.setTop (mkF m 16 #[.val (.int p0), .val (.long p1), .second] [(.long p1)])) _
          exact own_retL X0 hx Bd.returns (hb hby d2_16) hr
        · show Q2 Z p0 p1 h0 n0 _ s₁.heap _
          rw [e0]
          exact ⟨by rw [f2, if_neg hc36, if_neg hc38, if_pos hc40], N0, rfl⟩
      · have k41 : ∀ t, Steps p.tables e below (s₁.setTop (mkF m 20 #[.val (.int p0), .val (.long p1), .second] [(.int (10 : Int32)), (.int p0)])) t → Steps p.tables e below (s₁.setTop (entryFrame m #[(.int p0), (.long p1)] 3)) t := fun t kt => k39 t (by
          show Steps p.tables e below (s₁.setTop (mkF m 12 #[.val (.int p0), .val (.long p1), .second] [(.int (11 : Int32)), (.int p0)])) _
          refine XS.icmpYes X0.here hx rfl (pc0 := 12) (pc' := 17) rfl (hb hby d2_12) rfl (feq (hc40 : ¬ (p0 = (11 : Int32)))).2 (by decide) (by decide) ?_
          show Steps p.tables e below (s₁.setTop (mkF m 17 #[.val (.int p0), .val (.long p1), .second] [])) _
          refine XS.iloadN X0.here hx rfl (hb hby d2_17) rfl ?_
          show Steps p.tables e below (s₁.setTop (mkF m 18 #[.val (.int p0), .val (.long p1), .second] [(.int p0)])) _
          refine XS.bipush X0.here hx rfl (hb hby d2_18) ?_
          exact kt)
        by_cases hc42 : p0 = (10 : Int32)
        · obtain ⟨fs, hr, hrun, hended, hW, hsame⟩ := X0.leave (v := some (.long (p1 - (1000 : Int64)))) (fun h => by rw [Bd.returns] at h; cases h)
          refine ⟨_, _, k41 _ ?_, hrun, hended, _, _, rfl, ?_, ⟨_, rfl⟩, hW, hsame.mono (by decide) (by decide)⟩
          · show Steps p.tables e below (s₁.setTop (mkF m 20 #[.val (.int p0), .val (.long p1), .second] [(.int (10 : Int32)), (.int p0)])) _
            refine XS.icmpNo X0.here hx rfl (hb hby d2_20) rfl (teq (hc42 : p0 = (10 : Int32))).2 ?_
            show Steps p.tables e below (s₁.setTop (mkF m 23 #[.val (.int p0), .val (.long p1), .second] [])) _
            refine XS.lloadN X0.here hx rfl (hb hby d2_23) rfl ?_
            show Steps p.tables e below (s₁.setTop (mkF m 24 #[.val (.int p0), .val (.long p1), .second] [(.long p1)])) _
            refine X0.ldc2Long hx hown (mvT hZ (hw _ (List.mem_of_getElem? (i := 42) rfl))) (g := (mkF m 24 #[.val (.int p0), .val (.long p1), .second] [(.long p1)])) rfl (hb hby d2_24) _ ?_
            show Steps p.tables e below (s₁.setTop (mkF m 27 #[.val (.int p0), .val (.long p1), .second] [(.long (1000 : Int64)), (.long p1)])) _
            refine XS.lsub X0.here hx rfl (hb hby d2_27) rfl ?_
            show Steps p.tables e below (s₁.setTop (mkF m 28 #[.val (.int p0), .val (.long p1), .second] [(.long (p1 - (1000 : Int64)))])) _
            exact own_retL X0 hx Bd.returns (hb hby d2_28) hr
          · show Q2 Z p0 p1 h0 n0 _ s₁.heap _
            rw [e0]
            exact ⟨by rw [f2, if_neg hc36, if_neg hc38, if_neg hc40, if_pos hc42], N0, rfl⟩
        · obtain ⟨fs, hr, hrun, hended, hW, hsame⟩ := X0.leave (v := some (.long (0 : Int64))) (fun h => by rw [Bd.returns] at h; cases h)
          refine ⟨_, _, k41 _ ?_, hrun, hended, _, _, rfl, ?_, ⟨_, rfl⟩, hW, hsame.mono (by decide) (by decide)⟩
          · show Steps p.tables e below (s₁.setTop (mkF m 20 #[.val (.int p0), .val (.long p1), .second] [(.int (10 : Int32)), (.int p0)])) _
            refine XS.icmpYes X0.here hx rfl (pc0 := 20) (pc' := 29) rfl (hb hby d2_20) rfl (feq (hc42 : ¬ (p0 = (10 : Int32)))).2 (by decide) (by decide) ?_
            show Steps p.tables e below (s₁.setTop (mkF m 29 #[.val (.int p0), .val (.long p1), .second] [])) _
            refine XS.lconst X0.here hx rfl (hb hby d2_29) ?_
            show Steps p.tables e below (s₁.setTop (mkF m 30 #[.val (.int p0), .val (.long p1), .second] [(.long (0 : Int64))])) _
            exact own_retL X0 hx Bd.returns (hb hby d2_30) hr
          · show Q2 Z p0 p1 h0 n0 _ s₁.heap _
            rw [e0]
            exact ⟨by rw [f2, if_neg hc36, if_neg hc38, if_neg hc40, if_neg hc42], N0, rfl⟩
theorem d3_0 : decode prog_39_method_7_code 0 = .ok (.aload_n 0, 1) := by decide +kernel
theorem d3_1 : decode prog_39_method_7_code 1 = .ok (.getfield 59, 3) := by decide +kernel
theorem d3_4 : decode prog_39_method_7_code 4 = .ok (.ifCond .eq 12, 3) := by decide +kernel
theorem d3_16 : decode prog_39_method_7_code 16 = .ok (.lconst 0, 1) := by decide +kernel
theorem d3_17 : decode prog_39_method_7_code 17 = .ok (.lreturn, 1) := by decide +kernel
theorem d3_7 : decode prog_39_method_7_code 7 = .ok (.lload_n 1, 1) := by decide +kernel
theorem d3_8 : decode prog_39_method_7_code 8 = .ok (.aload_n 0, 1) := by decide +kernel
theorem d3_9 : decode prog_39_method_7_code 9 = .ok (.getfield 67, 3) := by decide +kernel
theorem d3_12 : decode prog_39_method_7_code 12 = .ok (.lsub, 1) := by decide +kernel
theorem d3_13 : decode prog_39_method_7_code 13 = .ok (.goto 4, 3) := by decide +kernel
theorem pn_1 : plainName "com/example/cardstand/cardstand/scenario/PaymentAppScenario$Result" = true := by first | (simp [plainName, overriddenIn]; done) | decide +kernel
def f3 (p0 : Addr) (p1 : Int64) (u_p0_approved : Int32) (u_p0_heldBackInCents : Int64) : Int64 := if u_p0_approved = (0 : Int32) then (0 : Int64) else (p1 - u_p0_heldBackInCents)
theorem ef_3 (m : MethodId) (p0 : Addr) (p1 : Int64) : entryFrame m #[(.ref p0), (.long p1)] 3 = mkF m 0 #[.val (.ref p0), .val (.long p1), .second] [] := by first | (simp [entryFrame, mkF, argsToLocals, Value.category]; done) | rfl
def Q3 (Z : State) (p0 : Addr) (p1 : Int64) (u_p0_approved : Int32) (u_p0_heldBackInCents : Int64) (h0 : Heap) (n0 : Nat) (v : Option Value) (h : Heap) (L : List Loc) : Prop := v = some (.long (f3 p0 p1 u_p0_approved u_p0_heldBackInCents)) ∧ Fr n0 L ∧ h = h0
set_option maxRecDepth 65536 in
set_option maxHeartbeats 40000000 in
theorem rm3 (l : Launch) (Z : State) (a0 : Array Value) (hw : ∀ d ∈ tables_1, d.before a0 Z = true) (ws : List Jvm.Cond) (p0 : Addr) (p1 : Int64) (u_p0_approved : Int32) (u_p0_heldBackInCents : Int64) (h0 : Heap) (n0 : Nat) (Z0 : n0 ≤ h0.size) (G_p0_approved : Fld Z h0 p0 "com/example/cardstand/cardstand/scenario/PaymentAppScenario$Result" "approved" "Z" (.int u_p0_approved)) (G_p0_heldBackInCents : Fld Z h0 p0 "com/example/cardstand/cardstand/scenario/PaymentAppScenario$Result" "heldBackInCents" "J" (.long u_p0_heldBackInCents)) :
    MetFree l (⟨"com/example/cardstand/cardstand/scenario/PaymentAppScenario$Result", "approvedInCents", "(J)J"⟩ : MethodName) (head1 (Jvm.Cond.code (⟨"com/example/cardstand/cardstand/scenario/PaymentAppScenario$Result", "approvedInCents", "(J)J"⟩ : MethodName) prog_39_method_7_code 3 (some .long) :: ws) ({ frames := 0, cells := 0, slots := 0, locals := 0 } : Room)) (fun a U => a = #[(.ref p0), (.long p1)] ∧ Z.Warmed39 U.vm ∧ U.heap = h0) (fun _ _ _ _ _ => True) (fun _ U o U' => ∃ v L, o = .returned v ∧ Q3 Z p0 p1 u_p0_approved u_p0_heldBackInCents h0 n0 v U'.heap L ∧ FrameEnd U o U' L ({ frames := 0, cells := 0, slots := 0, locals := 0 } : Room).cells ({ frames := 0, cells := 0, slots := 0, locals := 0 } : Room).slots) := by
  refine MetFree.of_bodySF (plainFor_of_name pn_1) hisR ?_
  intro p e s m args below meth c s₁ Bd hml0 hP hK
  obtain ⟨rfl, hZ, hh⟩ := hP
  have hx := Bd.exec
  have hby := Bd.bytes
  have hml : c.maxLocals = 3 := hml0
  have hown : s.vm.findClass "com/example/cardstand/cardstand/scenario/PaymentAppScenario$Result" = some m.cls := findClass_of_methodNamed Bd.named
  have X0 : Stand p l e ({ frames := 0, cells := 0, slots := 0, locals := 0 } : Room) s m #[(.ref p0), (.long p1)] below meth c s₁ [] 0 0 := Stand.of_body Bd
  have e0 : s₁.heap = h0 := by rw [← hh, Bd.state]; rfl
  have N0 := Fr.nil n0
  have pre0 : ∀ t, Steps p.tables e below (s₁.setTop (mkF m 0 #[.val (.ref p0), .val (.long p1), .second] [])) t → Steps p.tables e below (s₁.setTop (entryFrame m #[(.ref p0), (.long p1)] 3)) t := fun t k => castTop (ef_3 m p0 p1) k
  obtain ⟨T43, X43, e43, st43⟩ := getF X0 hx hZ hown (host := "") (Or.inl (hw _ (List.mem_of_getElem? (i := 16) rfl))) Via.refl e0 G_p0_approved (g := (mkF m 1 #[.val (.ref p0), .val (.long p1), .second] [(.ref p0)])) rfl rfl (hb hby d3_1)
  have k44 : ∀ t, Steps p.tables e below (T43.setTop (mkF m 4 #[.val (.ref p0), .val (.long p1), .second] [(.int u_p0_approved)])) t → Steps p.tables e below (s₁.setTop (entryFrame m #[(.ref p0), (.long p1)] 3)) t := fun t kt => pre0 t (by
    show Steps p.tables e below (s₁.setTop (mkF m 0 #[.val (.ref p0), .val (.long p1), .second] [])) _
    refine XS.aloadN X0.here hx rfl (hb hby d3_0) rfl rfl ?_
    show Steps p.tables e below (s₁.setTop (mkF m 1 #[.val (.ref p0), .val (.long p1), .second] [(.ref p0)])) _
    refine st43 _ ?_
    exact kt)
  by_cases hc45 : u_p0_approved = (0 : Int32)
  · obtain ⟨fs, hr, hrun, hended, hW, hsame⟩ := X43.leave (v := some (.long (0 : Int64))) (fun h => by rw [Bd.returns] at h; cases h)
    refine ⟨_, _, k44 _ ?_, hrun, hended, _, _, rfl, ?_, ⟨_, rfl⟩, hW, hsame.mono (by decide) (by decide)⟩
    · show Steps p.tables e below (T43.setTop (mkF m 4 #[.val (.ref p0), .val (.long p1), .second] [(.int u_p0_approved)])) _
      refine XS.ifYes X43.here hx rfl (pc0 := 4) (pc' := 16) rfl (hb hby d3_4) rfl ((if0 _ _).trans (teq (hc45 : u_p0_approved = (0 : Int32))).1) (by decide) (by decide) ?_
      show Steps p.tables e below (T43.setTop (mkF m 16 #[.val (.ref p0), .val (.long p1), .second] [])) _
      refine XS.lconst X43.here hx rfl (hb hby d3_16) ?_
      show Steps p.tables e below (T43.setTop (mkF m 17 #[.val (.ref p0), .val (.long p1), .second] [(.long (0 : Int64))])) _
      exact own_retL X43 hx Bd.returns (hb hby d3_17) hr
    · show Q3 Z p0 p1 u_p0_approved u_p0_heldBackInCents h0 n0 _ T43.heap _
      rw [e43]
      exact ⟨by rw [f3, if_pos hc45], N0, rfl⟩
  · obtain ⟨T46, X46, e46, st46⟩ := getF X43 hx hZ hown (host := "") (Or.inl (hw _ (List.mem_of_getElem? (i := 18) rfl))) Via.refl e43 G_p0_heldBackInCents (g := (mkF m 9 #[.val (.ref p0), .val (.long p1), .second] [(.ref p0), (.long p1)])) rfl rfl (hb hby d3_9)
    obtain ⟨fs, hr, hrun, hended, hW, hsame⟩ := X46.leave (v := some (.long (p1 - u_p0_heldBackInCents))) (fun h => by rw [Bd.returns] at h; cases h)
    refine ⟨_, _, k44 _ ?_, hrun, hended, _, _, rfl, ?_, ⟨_, rfl⟩, hW, hsame.mono (by decide) (by decide)⟩
    · show Steps p.tables e below (T43.setTop (mkF m 4 #[.val (.ref p0), .val (.long p1), .second] [(.int u_p0_approved)])) _
      refine XS.ifNo X43.here hx rfl (hb hby d3_4) rfl ((if0 _ _).trans (feq (hc45 : ¬ (u_p0_approved = (0 : Int32)))).1) ?_
      show Steps p.tables e below (T43.setTop (mkF m 7 #[.val (.ref p0), .val (.long p1), .second] [])) _
      refine XS.lloadN X43.here hx rfl (hb hby d3_7) rfl ?_
      show Steps p.tables e below (T43.setTop (mkF m 8 #[.val (.ref p0), .val (.long p1), .second] [(.long p1)])) _
      refine XS.aloadN X43.here hx rfl (hb hby d3_8) rfl rfl ?_
      show Steps p.tables e below (T43.setTop (mkF m 9 #[.val (.ref p0), .val (.long p1), .second] [(.ref p0), (.long p1)])) _
      refine st46 _ ?_
      show Steps p.tables e below (T46.setTop (mkF m 12 #[.val (.ref p0), .val (.long p1), .second] [(.long u_p0_heldBackInCents), (.long p1)])) _
      refine XS.lsub X46.here hx rfl (hb hby d3_12) rfl ?_
      show Steps p.tables e below (T46.setTop (mkF m 13 #[.val (.ref p0), .val (.long p1), .second] [(.long (p1 - u_p0_heldBackInCents))])) _
      refine XS.goto X46.here hx rfl (pc0 := 13) (pc' := 17) rfl (hb hby d3_13) (by decide) (by decide) ?_
      show Steps p.tables e below (T46.setTop (mkF m 17 #[.val (.ref p0), .val (.long p1), .second] [(.long (p1 - u_p0_heldBackInCents))])) _
      exact own_retL X46 hx Bd.returns (hb hby d3_17) hr
    · show Q3 Z p0 p1 u_p0_approved u_p0_heldBackInCents h0 n0 _ T46.heap _
      rw [e46]
      exact ⟨by rw [f3, if_neg hc45], N0, rfl⟩
theorem pd_0 : parseMethodDescriptor "(I)Lcom/example/cardstand/cardstand/scenario/PaymentAppScenario$Result;" = some ⟨[.int], some (.object "com/example/cardstand/cardstand/scenario/PaymentAppScenario$Result")⟩ := by decide +kernel
theorem pd_1 : parseMethodDescriptor "(IJ)J" = some ⟨[.int, .long], some .long⟩ := by decide +kernel
theorem pd_2 : parseMethodDescriptor "(J)J" = some ⟨[.long], some .long⟩ := by decide +kernel
theorem ef_0 (m : MethodId) (p0 : Int32) (p1 : Int64) : entryFrame m #[(.int p0), (.long p1)] maxLocals = mkF m 0 #[.val (.int p0), .val (.long p1), .second, .unset, .unset, .unset, .unset] [] := by first | (simp [entryFrame, mkF, argsToLocals, Value.category, maxLocals]; done) | rfl
def Q0 (Z : State) (p0 : Int32) (p1 : Int64) (wAPPROVED : Addr) (wVOICE_APPROVED : Addr) (wINVALID_CARD : Addr) (wREFERRAL : Addr) (wLOST_OR_STOLEN : Addr) (wCREDIT_POSTED : Addr) (wNETWORK_ERROR : Addr) (wPICK_UP : Addr) (wINSUFFICIENT_FUNDS : Addr) (wCSC_FAILED : Addr) (wNETWORK_UNAVAILABLE : Addr) (wPARTIALLY_APPROVED : Addr) (h0 : Heap) (n0 : Nat) (v : Option Value) (h : Heap) (L : List Loc) : Prop := v = some (.int 1) ∧ Fr n0 L
set_option maxRecDepth 65536 in
set_option maxHeartbeats 40000000 in
theorem rm0 (l : Launch) (Z : State) (a0 : Array Value) (hw : ∀ d ∈ tables_1, d.before a0 Z = true) (ws : List Jvm.Cond) (p0 : Int32) (p1 : Int64) (wAPPROVED : Addr) (wVOICE_APPROVED : Addr) (wINVALID_CARD : Addr) (wREFERRAL : Addr) (wLOST_OR_STOLEN : Addr) (wCREDIT_POSTED : Addr) (wNETWORK_ERROR : Addr) (wPICK_UP : Addr) (wINSUFFICIENT_FUNDS : Addr) (wCSC_FAILED : Addr) (wNETWORK_UNAVAILABLE : Addr) (wPARTIALLY_APPROVED : Addr) (h0 : Heap) (n0 : Nat) (Z0 : n0 ≤ h0.size) (W0 : World Z h0 wAPPROVED wVOICE_APPROVED wINVALID_CARD wREFERRAL wLOST_OR_STOLEN wCREDIT_POSTED wNETWORK_ERROR wPICK_UP wINSUFFICIENT_FUNDS wCSC_FAILED wNETWORK_UNAVAILABLE wPARTIALLY_APPROVED) :
    MetFree l x (head1 (Jvm.Cond.code x code maxLocals ret :: ws) room_1) (fun a U => a = #[(.int p0), (.long p1)] ∧ Z.Warmed39 U.vm ∧ U.heap = h0) (fun _ _ _ _ _ => True) (fun _ U o U' => ∃ v L, o = .returned v ∧ Q0 Z p0 p1 wAPPROVED wVOICE_APPROVED wINVALID_CARD wREFERRAL wLOST_OR_STOLEN wCREDIT_POSTED wNETWORK_ERROR wPICK_UP wINSUFFICIENT_FUNDS wCSC_FAILED wNETWORK_UNAVAILABLE wPARTIALLY_APPROVED h0 n0 v U'.heap L ∧ FrameEnd U o U' L room_1.cells room_1.slots) := by
  refine MetFree.of_bodySF (plainFor_of_name pn_0) hisR ?_
  intro p e s m args below meth c s₁ Bd hml0 hP hK
  obtain ⟨rfl, hZ, hh⟩ := hP
  have hx := Bd.exec
  have hby := Bd.bytes
  have hml : c.maxLocals = 7 := hml0
  have hown : s.vm.findClass "com/example/cardstand/cardstand/scenario/ResultApprovedInCentsPinLaw" = some m.cls := findClass_of_methodNamed Bd.named
  have X0 : Stand p l e room_1 s m #[(.int p0), (.long p1)] below meth c s₁ [] 0 0 := Stand.of_body Bd
  have e0 : s₁.heap = h0 := by rw [← hh, Bd.state]; rfl
  have N0 := Fr.nil n0
  have W1 := W0
  obtain ⟨SAPPROVED, EAPPROVED, FAPPROVED_approved, FAPPROVED_heldBackInCents, SVOICE_APPROVED, EVOICE_APPROVED, FVOICE_APPROVED_approved, FVOICE_APPROVED_heldBackInCents, SINVALID_CARD, EINVALID_CARD, FINVALID_CARD_approved, SREFERRAL, EREFERRAL, FREFERRAL_approved, SLOST_OR_STOLEN, ELOST_OR_STOLEN, FLOST_OR_STOLEN_approved, SCREDIT_POSTED, ECREDIT_POSTED, FCREDIT_POSTED_approved, FCREDIT_POSTED_heldBackInCents, SNETWORK_ERROR, ENETWORK_ERROR, FNETWORK_ERROR_approved, SPICK_UP, EPICK_UP, FPICK_UP_approved, SINSUFFICIENT_FUNDS, EINSUFFICIENT_FUNDS, FINSUFFICIENT_FUNDS_approved, SCSC_FAILED, ECSC_FAILED, FCSC_FAILED_approved, SNETWORK_UNAVAILABLE, ENETWORK_UNAVAILABLE, FNETWORK_UNAVAILABLE_approved, SPARTIALLY_APPROVED, EPARTIALLY_APPROVED, FPARTIALLY_APPROVED_approved, FPARTIALLY_APPROVED_heldBackInCents, FINVALID_CARD_heldBackInCents, FREFERRAL_heldBackInCents, FLOST_OR_STOLEN_heldBackInCents, FNETWORK_ERROR_heldBackInCents, FPICK_UP_heldBackInCents, FINSUFFICIENT_FUNDS_heldBackInCents, FCSC_FAILED_heldBackInCents, FNETWORK_UNAVAILABLE_heldBackInCents, -⟩ := W1
  have pre0 : ∀ t, Steps p.tables e below (s₁.setTop (mkF m 0 #[.val (.int p0), .val (.long p1), .second, .unset, .unset, .unset, .unset] [])) t → Steps p.tables e below (s₁.setTop (entryFrame m #[(.int p0), (.long p1)] maxLocals)) t := fun t k => castTop (ef_0 m p0 p1) k
  obtain ⟨i47, hi47⟩ : ∃ z, z = ((p0 &&& (2147483647 : Int32)) % (12 : Int32)) := ⟨_, rfl⟩
  have k48 : ∀ t, Steps p.tables e below (s₁.setTop (mkF m 8 #[.val (.int p0), .val (.long p1), .second, .val (.int i47), .unset, .unset, .unset] [])) t → Steps p.tables e below (s₁.setTop (entryFrame m #[(.int p0), (.long p1)] maxLocals)) t := fun t kt => pre0 t (by
    show Steps p.tables e below (s₁.setTop (mkF m 0 #[.val (.int p0), .val (.long p1), .second, .unset, .unset, .unset, .unset] [])) _
    refine XS.iloadN X0.here hx rfl (hb hby at_0) rfl ?_
    show Steps p.tables e below (s₁.setTop (mkF m 1 #[.val (.int p0), .val (.long p1), .second, .unset, .unset, .unset, .unset] [(.int p0)])) _
    refine X0.ldcInt hx hown (mvT hZ (hw _ (List.mem_of_getElem? (i := 0) rfl))) (g := (mkF m 1 #[.val (.int p0), .val (.long p1), .second, .unset, .unset, .unset, .unset] [(.int p0)])) rfl (hb hby at_1) _ ?_
    show Steps p.tables e below (s₁.setTop (mkF m 3 #[.val (.int p0), .val (.long p1), .second, .unset, .unset, .unset, .unset] [(.int (2147483647 : Int32)), (.int p0)])) _
    refine XS.iand X0.here hx rfl (hb hby at_3) rfl ?_
    show Steps p.tables e below (s₁.setTop (mkF m 4 #[.val (.int p0), .val (.long p1), .second, .unset, .unset, .unset, .unset] [(.int (p0 &&& (2147483647 : Int32)))])) _
    refine XS.bipush X0.here hx rfl (hb hby at_4) ?_
    show Steps p.tables e below (s₁.setTop (mkF m 6 #[.val (.int p0), .val (.long p1), .second, .unset, .unset, .unset, .unset] [(.int (12 : Int32)), (.int (p0 &&& (2147483647 : Int32)))])) _
    refine iremM X0 hx rfl (hb hby at_6) rfl (by decide) ?_
    rw [← hi47]
    show Steps p.tables e below (s₁.setTop (mkF m 7 #[.val (.int p0), .val (.long p1), .second, .unset, .unset, .unset, .unset] [(.int i47)])) _
    refine XS.istoreN X0.here hx rfl (hb hby at_7) rfl (l' := #[.val (.int p0), .val (.long p1), .second, .val (.int i47), .unset, .unset, .unset]) rfl ?_
    exact kt)
  rcases own_cases12 hi47 with hv49 | hv49 | hv49 | hv49 | hv49 | hv49 | hv49 | hv49 | hv49 | hv49 | hv49 | hv49
  · subst hv49
    obtain ⟨_, _, ⟨T50, L50, k50, n50⟩, -, X50, ⟨Lc50, hQ50, l50, y50, z50⟩, st50⟩ := Jvm.LawKit.callS X0 hx (y := (⟨"com/example/cardstand/cardstand/scenario/ResultApprovedInCentsPinLaw", "resultFor", "(I)Lcom/example/cardstand/cardstand/scenario/PaymentAppScenario$Result;"⟩ : MethodName)) hown (mvT hZ (hw _ (List.mem_of_getElem? (i := 1) rfl))) (mvT hZ (hw _ (List.mem_of_getElem? (i := 2) rfl))) (mvT hZ (hw _ (List.mem_of_getElem? (i := 3) rfl))) (mvT hZ (hw _ (List.mem_of_getElem? (i := 4) rfl))) (by decide) (backOf (W := 0) (rm1 l Z a0 hw [] (0 : Int32) wAPPROVED wVOICE_APPROVED wINVALID_CARD wREFERRAL wLOST_OR_STOLEN wCREDIT_POSTED wNETWORK_ERROR wPICK_UP wINSUFFICIENT_FUNDS wCSC_FAILED wNETWORK_UNAVAILABLE wPARTIALLY_APPROVED h0 n0 Z0 W0 ) hZ (hw _ (List.mem_of_getElem? (i := 4) rfl)) (hw _ (List.mem_of_getElem? (i := 3) rfl)) (by decide) (by decide)) (g := (mkF m 9 #[.val (.int p0), .val (.long p1), .second, .val (.int (0 : Int32)), .unset, .unset, .unset] [(.int (0 : Int32))])) rfl (by rw [hml]; rfl) (argsL := [(.int (0 : Int32))]) (rest := []) (lenOf pd_0 rfl) rfl (by show 2 * 0 + _ ≤ _; exact Nat.le_of_eq rfl) (hb hby at_9) (fun _ _ => ⟨rfl, e0, (by decide : 0 + 0 ≤ _), (by decide : 0 + 0 ≤ _)⟩)
    dsimp only [Pt.U, Pt.locs, Pt.cells, Pt.slots] at X50 l50 y50 z50 st50 hQ50
    subst l50 y50 z50
    unfold Q1 at hQ50
    have k51 : ∀ t, Steps p.tables e below (s₁.setTop (mkF m 9 #[.val (.int p0), .val (.long p1), .second, .val (.int (0 : Int32)), .unset, .unset, .unset] [(.int (0 : Int32))])) t → Steps p.tables e below (s₁.setTop (entryFrame m #[(.int p0), (.long p1)] maxLocals)) t := fun t kt => k48 t (by
      show Steps p.tables e below (s₁.setTop (mkF m 8 #[.val (.int p0), .val (.long p1), .second, .val (.int (0 : Int32)), .unset, .unset, .unset] [])) _
      refine XS.iloadN X0.here hx rfl (hb hby at_8) rfl ?_
      exact kt)
    rw [((by rw [f1, if_pos (rfl : (0 : Int32) = (0 : Int32))]) : (f1 (0 : Int32) wAPPROVED wVOICE_APPROVED wINVALID_CARD wREFERRAL wLOST_OR_STOLEN wCREDIT_POSTED wNETWORK_ERROR wPICK_UP wINSUFFICIENT_FUNDS wCSC_FAILED wNETWORK_UNAVAILABLE wPARTIALLY_APPROVED) = wAPPROVED)] at hQ50
    obtain ⟨rfl, N50q, e50⟩ := hQ50
    have N50 := Fr.app N0 N50q
    obtain ⟨_, _, ⟨T52, L52, k52, n52⟩, -, X52, ⟨Lc52, hQ52, l52, y52, z52⟩, st52⟩ := Jvm.LawKit.callS X50 hx (y := (⟨"com/example/cardstand/cardstand/scenario/ResultApprovedInCentsPinLaw", "expectedFor", "(IJ)J"⟩ : MethodName)) hown (mvT hZ (hw _ (List.mem_of_getElem? (i := 8) rfl))) (mvT hZ (hw _ (List.mem_of_getElem? (i := 9) rfl))) (mvT hZ (hw _ (List.mem_of_getElem? (i := 3) rfl))) (mvT hZ (hw _ (List.mem_of_getElem? (i := 10) rfl))) (by decide) (backOf (W := 0) (rm2 l Z a0 hw [] (0 : Int32) p1 h0 n0 Z0 ) hZ (hw _ (List.mem_of_getElem? (i := 10) rfl)) (hw _ (List.mem_of_getElem? (i := 3) rfl)) (by decide) (by decide)) (g := (mkF m 16 #[.val (.int p0), .val (.long p1), .second, .val (.int (0 : Int32)), .val (.ref wAPPROVED), .unset, .unset] [(.long p1), (.int (0 : Int32))])) rfl (by rw [hml]; rfl) (argsL := [(.int (0 : Int32)), (.long p1)]) (rest := []) (lenOf pd_1 rfl) rfl (by show 2 * 0 + _ ≤ _; exact Nat.le_of_eq rfl) (hb hby at_16) (fun _ _ => ⟨rfl, e50, (by decide : 0 + 0 ≤ _), (by decide : 0 + 0 ≤ _)⟩)
    dsimp only [Pt.U, Pt.locs, Pt.cells, Pt.slots] at X52 l52 y52 z52 st52 hQ52
    subst l52 y52 z52
    unfold Q2 at hQ52
    have k53 : ∀ t, Steps p.tables e below (T50.setTop (mkF m 16 #[.val (.int p0), .val (.long p1), .second, .val (.int (0 : Int32)), .val (.ref wAPPROVED), .unset, .unset] [(.long p1), (.int (0 : Int32))])) t → Steps p.tables e below (s₁.setTop (entryFrame m #[(.int p0), (.long p1)] maxLocals)) t := fun t kt => k51 t (by
      show Steps p.tables e below (s₁.setTop (mkF m 9 #[.val (.int p0), .val (.long p1), .second, .val (.int (0 : Int32)), .unset, .unset, .unset] [(.int (0 : Int32))])) _
      refine st50 _ ?_
      show Steps p.tables e below (T50.setTop (mkF m 12 #[.val (.int p0), .val (.long p1), .second, .val (.int (0 : Int32)), .unset, .unset, .unset] [(.ref wAPPROVED)])) _
      refine XS.astore X50.here hx rfl (hb hby at_12) rfl rfl (l' := #[.val (.int p0), .val (.long p1), .second, .val (.int (0 : Int32)), .val (.ref wAPPROVED), .unset, .unset]) rfl ?_
      show Steps p.tables e below (T50.setTop (mkF m 14 #[.val (.int p0), .val (.long p1), .second, .val (.int (0 : Int32)), .val (.ref wAPPROVED), .unset, .unset] [])) _
      refine XS.iloadN X50.here hx rfl (hb hby at_14) rfl ?_
      show Steps p.tables e below (T50.setTop (mkF m 15 #[.val (.int p0), .val (.long p1), .second, .val (.int (0 : Int32)), .val (.ref wAPPROVED), .unset, .unset] [(.int (0 : Int32))])) _
      refine XS.lloadN X50.here hx rfl (hb hby at_15) rfl ?_
      exact kt)
    rw [((by rw [f2, if_pos (rfl : (0 : Int32) = (0 : Int32))]) : (f2 (0 : Int32) p1) = p1)] at hQ52
    obtain ⟨rfl, N52q, e52⟩ := hQ52
    have N52 := Fr.app N50 N52q
    obtain ⟨cq54, kq54, q54a, q54b, q54c⟩ := isOf hZ e52 EAPPROVED
    obtain ⟨_, _, ⟨T54, L54, k54, n54⟩, -, X54, ⟨Lc54, hQ54, l54, y54, z54⟩, st54⟩ := X52.virtualBack hx (y := (⟨"com/example/cardstand/cardstand/scenario/PaymentAppScenario$Result", "approvedInCents", "(J)J"⟩ : MethodName)) (z := (⟨"com/example/cardstand/cardstand/scenario/PaymentAppScenario$Result", "approvedInCents", "(J)J"⟩ : MethodName)) hown (mvT hZ (hw _ (List.mem_of_getElem? (i := 11) rfl))) (mvT hZ (hw _ (List.mem_of_getElem? (i := 12) rfl))) (notFace_of_selects (args := #[]) (mvT hZ (hw _ (List.mem_of_getElem? (i := 14) rfl)))) (mvT hZ (hw _ (List.mem_of_getElem? (i := 14) rfl))) (mvT hZ (hw _ (List.mem_of_getElem? (i := 13) rfl))) (by decide) (backOf (W := 0) (rm3 l Z a0 hw [] wAPPROVED p1 (1 : Int32) (0 : Int64) h0 n0 Z0 FAPPROVED_approved FAPPROVED_heldBackInCents) hZ (hw _ (List.mem_of_getElem? (i := 15) rfl)) (hw _ (List.mem_of_getElem? (i := 6) rfl)) (by decide) (by decide)) q54a q54c (g := (mkF m 24 #[.val (.int p0), .val (.long p1), .second, .val (.int (0 : Int32)), .val (.ref wAPPROVED), .val (.long p1), .second] [(.long p1), (.ref wAPPROVED)])) rfl (by rw [hml]; rfl) (Steps.refl _) (argsL := [(.long p1)]) (rest := []) (lenOf pd_2 rfl) rfl (by show 2 * 0 + _ ≤ _; exact Nat.le_of_eq rfl) (hb hby at_24) (fun _ _ => ⟨rfl, e52, (by decide : 0 + 0 ≤ _), (by decide : 0 + 0 ≤ _)⟩)
    dsimp only [Pt.U, Pt.locs, Pt.cells, Pt.slots] at X54 l54 y54 z54 st54 hQ54
    subst l54 y54 z54
    unfold Q3 at hQ54
    have k55 : ∀ t, Steps p.tables e below (T52.setTop (mkF m 24 #[.val (.int p0), .val (.long p1), .second, .val (.int (0 : Int32)), .val (.ref wAPPROVED), .val (.long p1), .second] [(.long p1), (.ref wAPPROVED)])) t → Steps p.tables e below (s₁.setTop (entryFrame m #[(.int p0), (.long p1)] maxLocals)) t := fun t kt => k53 t (by
      show Steps p.tables e below (T50.setTop (mkF m 16 #[.val (.int p0), .val (.long p1), .second, .val (.int (0 : Int32)), .val (.ref wAPPROVED), .unset, .unset] [(.long p1), (.int (0 : Int32))])) _
      refine st52 _ ?_
      show Steps p.tables e below (T52.setTop (mkF m 19 #[.val (.int p0), .val (.long p1), .second, .val (.int (0 : Int32)), .val (.ref wAPPROVED), .unset, .unset] [(.long p1)])) _
      refine XS.lstore X52.here hx rfl (hb hby at_19) rfl (l' := #[.val (.int p0), .val (.long p1), .second, .val (.int (0 : Int32)), .val (.ref wAPPROVED), .val (.long p1), .second]) rfl ?_
      show Steps p.tables e below (T52.setTop (mkF m 21 #[.val (.int p0), .val (.long p1), .second, .val (.int (0 : Int32)), .val (.ref wAPPROVED), .val (.long p1), .second] [])) _
      refine XS.aload X52.here hx rfl (hb hby at_21) rfl rfl ?_
      show Steps p.tables e below (T52.setTop (mkF m 23 #[.val (.int p0), .val (.long p1), .second, .val (.int (0 : Int32)), .val (.ref wAPPROVED), .val (.long p1), .second] [(.ref wAPPROVED)])) _
      refine XS.lloadN X52.here hx rfl (hb hby at_23) rfl ?_
      exact kt)
    rw [((by rw [f3, if_neg ((by decide) : ¬ ((1 : Int32) = (0 : Int32)))]) : (f3 wAPPROVED p1 (1 : Int32) (0 : Int64)) = (p1 - (0 : Int64)))] at hQ54
    obtain ⟨rfl, N54q, e54⟩ := hQ54
    have N54 := Fr.app N52 N54q
    obtain ⟨fs, hr, hrun, hended, hW, hsame⟩ := X54.leave (v := some (.int (1 : Int32))) (fun h => by rw [Bd.returns] at h; cases h)
    refine ⟨_, _, k55 _ ?_, hrun, hended, _, _, rfl, ?_, ⟨_, rfl⟩, hW, hsame.mono (by decide) (by decide)⟩
    · show Steps p.tables e below (T52.setTop (mkF m 24 #[.val (.int p0), .val (.long p1), .second, .val (.int (0 : Int32)), .val (.ref wAPPROVED), .val (.long p1), .second] [(.long p1), (.ref wAPPROVED)])) _
      refine st54.trans ?_
      show Steps p.tables e below (T54.setTop (mkF m 27 #[.val (.int p0), .val (.long p1), .second, .val (.int (0 : Int32)), .val (.ref wAPPROVED), .val (.long p1), .second] [(.long (p1 - (0 : Int64)))])) _
      refine XS.lload X54.here hx rfl (hb hby at_27) rfl ?_
      show Steps p.tables e below (T54.setTop (mkF m 29 #[.val (.int p0), .val (.long p1), .second, .val (.int (0 : Int32)), .val (.ref wAPPROVED), .val (.long p1), .second] [(.long p1), (.long (p1 - (0 : Int64)))])) _
      refine XS.lcmp X54.here hx rfl (hb hby at_29) rfl ?_
      show Steps p.tables e below (T54.setTop (mkF m 30 #[.val (.int p0), .val (.long p1), .second, .val (.int (0 : Int32)), .val (.ref wAPPROVED), .val (.long p1), .second] [(.int (lcmpW (p1 - (0 : Int64)) p1))])) _
      refine XS.ifNo X54.here hx rfl (hb hby at_30) rfl ((if0 _ _).trans (teq (own_lcEt ((by first | rfl | simp) : (p1 - (0 : Int64)) = p1) : (lcmpW (p1 - (0 : Int64)) p1) = (0 : Int32))).2) ?_
      show Steps p.tables e below (T54.setTop (mkF m 33 #[.val (.int p0), .val (.long p1), .second, .val (.int (0 : Int32)), .val (.ref wAPPROVED), .val (.long p1), .second] [])) _
      refine XS.iconst X54.here hx rfl (hb hby at_33) ?_
      show Steps p.tables e below (T54.setTop (mkF m 34 #[.val (.int p0), .val (.long p1), .second, .val (.int (0 : Int32)), .val (.ref wAPPROVED), .val (.long p1), .second] [(.int (1 : Int32))])) _
      refine XS.goto X54.here hx rfl (pc0 := 34) (pc' := 38) rfl (hb hby at_34) (by decide) (by decide) ?_
      show Steps p.tables e below (T54.setTop (mkF m 38 #[.val (.int p0), .val (.long p1), .second, .val (.int (0 : Int32)), .val (.ref wAPPROVED), .val (.long p1), .second] [(.int (1 : Int32))])) _
      exact retN X54 hx (t := .boolean) Bd.returns (by simp) (hb hby at_38) hr
    · show Q0 Z p0 p1 wAPPROVED wVOICE_APPROVED wINVALID_CARD wREFERRAL wLOST_OR_STOLEN wCREDIT_POSTED wNETWORK_ERROR wPICK_UP wINSUFFICIENT_FUNDS wCSC_FAILED wNETWORK_UNAVAILABLE wPARTIALLY_APPROVED h0 n0 _ T54.heap _
      rw [e54]
      exact ⟨rfl, N54⟩
  · subst hv49
    obtain ⟨_, _, ⟨T56, L56, k56, n56⟩, -, X56, ⟨Lc56, hQ56, l56, y56, z56⟩, st56⟩ := Jvm.LawKit.callS X0 hx (y := (⟨"com/example/cardstand/cardstand/scenario/ResultApprovedInCentsPinLaw", "resultFor", "(I)Lcom/example/cardstand/cardstand/scenario/PaymentAppScenario$Result;"⟩ : MethodName)) hown (mvT hZ (hw _ (List.mem_of_getElem? (i := 1) rfl))) (mvT hZ (hw _ (List.mem_of_getElem? (i := 2) rfl))) (mvT hZ (hw _ (List.mem_of_getElem? (i := 3) rfl))) (mvT hZ (hw _ (List.mem_of_getElem? (i := 4) rfl))) (by decide) (backOf (W := 0) (rm1 l Z a0 hw [] (1 : Int32) wAPPROVED wVOICE_APPROVED wINVALID_CARD wREFERRAL wLOST_OR_STOLEN wCREDIT_POSTED wNETWORK_ERROR wPICK_UP wINSUFFICIENT_FUNDS wCSC_FAILED wNETWORK_UNAVAILABLE wPARTIALLY_APPROVED h0 n0 Z0 W0 ) hZ (hw _ (List.mem_of_getElem? (i := 4) rfl)) (hw _ (List.mem_of_getElem? (i := 3) rfl)) (by decide) (by decide)) (g := (mkF m 9 #[.val (.int p0), .val (.long p1), .second, .val (.int (1 : Int32)), .unset, .unset, .unset] [(.int (1 : Int32))])) rfl (by rw [hml]; rfl) (argsL := [(.int (1 : Int32))]) (rest := []) (lenOf pd_0 rfl) rfl (by show 2 * 0 + _ ≤ _; exact Nat.le_of_eq rfl) (hb hby at_9) (fun _ _ => ⟨rfl, e0, (by decide : 0 + 0 ≤ _), (by decide : 0 + 0 ≤ _)⟩)
    dsimp only [Pt.U, Pt.locs, Pt.cells, Pt.slots] at X56 l56 y56 z56 st56 hQ56
    subst l56 y56 z56
    unfold Q1 at hQ56
    have k57 : ∀ t, Steps p.tables e below (s₁.setTop (mkF m 9 #[.val (.int p0), .val (.long p1), .second, .val (.int (1 : Int32)), .unset, .unset, .unset] [(.int (1 : Int32))])) t → Steps p.tables e below (s₁.setTop (entryFrame m #[(.int p0), (.long p1)] maxLocals)) t := fun t kt => k48 t (by
      show Steps p.tables e below (s₁.setTop (mkF m 8 #[.val (.int p0), .val (.long p1), .second, .val (.int (1 : Int32)), .unset, .unset, .unset] [])) _
      refine XS.iloadN X0.here hx rfl (hb hby at_8) rfl ?_
      exact kt)
    rw [((by rw [f1, if_neg ((by decide) : ¬ ((1 : Int32) = (0 : Int32))), if_pos (rfl : (1 : Int32) = (1 : Int32))]) : (f1 (1 : Int32) wAPPROVED wVOICE_APPROVED wINVALID_CARD wREFERRAL wLOST_OR_STOLEN wCREDIT_POSTED wNETWORK_ERROR wPICK_UP wINSUFFICIENT_FUNDS wCSC_FAILED wNETWORK_UNAVAILABLE wPARTIALLY_APPROVED) = wVOICE_APPROVED)] at hQ56
    obtain ⟨rfl, N56q, e56⟩ := hQ56
    have N56 := Fr.app N0 N56q
    obtain ⟨_, _, ⟨T58, L58, k58, n58⟩, -, X58, ⟨Lc58, hQ58, l58, y58, z58⟩, st58⟩ := Jvm.LawKit.callS X56 hx (y := (⟨"com/example/cardstand/cardstand/scenario/ResultApprovedInCentsPinLaw", "expectedFor", "(IJ)J"⟩ : MethodName)) hown (mvT hZ (hw _ (List.mem_of_getElem? (i := 8) rfl))) (mvT hZ (hw _ (List.mem_of_getElem? (i := 9) rfl))) (mvT hZ (hw _ (List.mem_of_getElem? (i := 3) rfl))) (mvT hZ (hw _ (List.mem_of_getElem? (i := 10) rfl))) (by decide) (backOf (W := 0) (rm2 l Z a0 hw [] (1 : Int32) p1 h0 n0 Z0 ) hZ (hw _ (List.mem_of_getElem? (i := 10) rfl)) (hw _ (List.mem_of_getElem? (i := 3) rfl)) (by decide) (by decide)) (g := (mkF m 16 #[.val (.int p0), .val (.long p1), .second, .val (.int (1 : Int32)), .val (.ref wVOICE_APPROVED), .unset, .unset] [(.long p1), (.int (1 : Int32))])) rfl (by rw [hml]; rfl) (argsL := [(.int (1 : Int32)), (.long p1)]) (rest := []) (lenOf pd_1 rfl) rfl (by show 2 * 0 + _ ≤ _; exact Nat.le_of_eq rfl) (hb hby at_16) (fun _ _ => ⟨rfl, e56, (by decide : 0 + 0 ≤ _), (by decide : 0 + 0 ≤ _)⟩)
    dsimp only [Pt.U, Pt.locs, Pt.cells, Pt.slots] at X58 l58 y58 z58 st58 hQ58
    subst l58 y58 z58
    unfold Q2 at hQ58
    have k59 : ∀ t, Steps p.tables e below (T56.setTop (mkF m 16 #[.val (.int p0), .val (.long p1), .second, .val (.int (1 : Int32)), .val (.ref wVOICE_APPROVED), .unset, .unset] [(.long p1), (.int (1 : Int32))])) t → Steps p.tables e below (s₁.setTop (entryFrame m #[(.int p0), (.long p1)] maxLocals)) t := fun t kt => k57 t (by
      show Steps p.tables e below (s₁.setTop (mkF m 9 #[.val (.int p0), .val (.long p1), .second, .val (.int (1 : Int32)), .unset, .unset, .unset] [(.int (1 : Int32))])) _
      refine st56 _ ?_
      show Steps p.tables e below (T56.setTop (mkF m 12 #[.val (.int p0), .val (.long p1), .second, .val (.int (1 : Int32)), .unset, .unset, .unset] [(.ref wVOICE_APPROVED)])) _
      refine XS.astore X56.here hx rfl (hb hby at_12) rfl rfl (l' := #[.val (.int p0), .val (.long p1), .second, .val (.int (1 : Int32)), .val (.ref wVOICE_APPROVED), .unset, .unset]) rfl ?_
      show Steps p.tables e below (T56.setTop (mkF m 14 #[.val (.int p0), .val (.long p1), .second, .val (.int (1 : Int32)), .val (.ref wVOICE_APPROVED), .unset, .unset] [])) _
      refine XS.iloadN X56.here hx rfl (hb hby at_14) rfl ?_
      show Steps p.tables e below (T56.setTop (mkF m 15 #[.val (.int p0), .val (.long p1), .second, .val (.int (1 : Int32)), .val (.ref wVOICE_APPROVED), .unset, .unset] [(.int (1 : Int32))])) _
      refine XS.lloadN X56.here hx rfl (hb hby at_15) rfl ?_
      exact kt)
    rw [((by rw [f2, if_neg ((by decide) : ¬ ((1 : Int32) = (0 : Int32))), if_pos (rfl : (1 : Int32) = (1 : Int32))]) : (f2 (1 : Int32) p1) = p1)] at hQ58
    obtain ⟨rfl, N58q, e58⟩ := hQ58
    have N58 := Fr.app N56 N58q
    obtain ⟨cq60, kq60, q60a, q60b, q60c⟩ := isOf hZ e58 EVOICE_APPROVED
    obtain ⟨_, _, ⟨T60, L60, k60, n60⟩, -, X60, ⟨Lc60, hQ60, l60, y60, z60⟩, st60⟩ := X58.virtualBack hx (y := (⟨"com/example/cardstand/cardstand/scenario/PaymentAppScenario$Result", "approvedInCents", "(J)J"⟩ : MethodName)) (z := (⟨"com/example/cardstand/cardstand/scenario/PaymentAppScenario$Result", "approvedInCents", "(J)J"⟩ : MethodName)) hown (mvT hZ (hw _ (List.mem_of_getElem? (i := 11) rfl))) (mvT hZ (hw _ (List.mem_of_getElem? (i := 12) rfl))) (notFace_of_selects (args := #[]) (mvT hZ (hw _ (List.mem_of_getElem? (i := 14) rfl)))) (mvT hZ (hw _ (List.mem_of_getElem? (i := 14) rfl))) (mvT hZ (hw _ (List.mem_of_getElem? (i := 13) rfl))) (by decide) (backOf (W := 0) (rm3 l Z a0 hw [] wVOICE_APPROVED p1 (1 : Int32) (0 : Int64) h0 n0 Z0 FVOICE_APPROVED_approved FVOICE_APPROVED_heldBackInCents) hZ (hw _ (List.mem_of_getElem? (i := 15) rfl)) (hw _ (List.mem_of_getElem? (i := 6) rfl)) (by decide) (by decide)) q60a q60c (g := (mkF m 24 #[.val (.int p0), .val (.long p1), .second, .val (.int (1 : Int32)), .val (.ref wVOICE_APPROVED), .val (.long p1), .second] [(.long p1), (.ref wVOICE_APPROVED)])) rfl (by rw [hml]; rfl) (Steps.refl _) (argsL := [(.long p1)]) (rest := []) (lenOf pd_2 rfl) rfl (by show 2 * 0 + _ ≤ _; exact Nat.le_of_eq rfl) (hb hby at_24) (fun _ _ => ⟨rfl, e58, (by decide : 0 + 0 ≤ _), (by decide : 0 + 0 ≤ _)⟩)
    dsimp only [Pt.U, Pt.locs, Pt.cells, Pt.slots] at X60 l60 y60 z60 st60 hQ60
    subst l60 y60 z60
    unfold Q3 at hQ60
    have k61 : ∀ t, Steps p.tables e below (T58.setTop (mkF m 24 #[.val (.int p0), .val (.long p1), .second, .val (.int (1 : Int32)), .val (.ref wVOICE_APPROVED), .val (.long p1), .second] [(.long p1), (.ref wVOICE_APPROVED)])) t → Steps p.tables e below (s₁.setTop (entryFrame m #[(.int p0), (.long p1)] maxLocals)) t := fun t kt => k59 t (by
      show Steps p.tables e below (T56.setTop (mkF m 16 #[.val (.int p0), .val (.long p1), .second, .val (.int (1 : Int32)), .val (.ref wVOICE_APPROVED), .unset, .unset] [(.long p1), (.int (1 : Int32))])) _
      refine st58 _ ?_
      show Steps p.tables e below (T58.setTop (mkF m 19 #[.val (.int p0), .val (.long p1), .second, .val (.int (1 : Int32)), .val (.ref wVOICE_APPROVED), .unset, .unset] [(.long p1)])) _
      refine XS.lstore X58.here hx rfl (hb hby at_19) rfl (l' := #[.val (.int p0), .val (.long p1), .second, .val (.int (1 : Int32)), .val (.ref wVOICE_APPROVED), .val (.long p1), .second]) rfl ?_
      show Steps p.tables e below (T58.setTop (mkF m 21 #[.val (.int p0), .val (.long p1), .second, .val (.int (1 : Int32)), .val (.ref wVOICE_APPROVED), .val (.long p1), .second] [])) _
      refine XS.aload X58.here hx rfl (hb hby at_21) rfl rfl ?_
      show Steps p.tables e below (T58.setTop (mkF m 23 #[.val (.int p0), .val (.long p1), .second, .val (.int (1 : Int32)), .val (.ref wVOICE_APPROVED), .val (.long p1), .second] [(.ref wVOICE_APPROVED)])) _
      refine XS.lloadN X58.here hx rfl (hb hby at_23) rfl ?_
      exact kt)
    rw [((by rw [f3, if_neg ((by decide) : ¬ ((1 : Int32) = (0 : Int32)))]) : (f3 wVOICE_APPROVED p1 (1 : Int32) (0 : Int64)) = (p1 - (0 : Int64)))] at hQ60
    obtain ⟨rfl, N60q, e60⟩ := hQ60
    have N60 := Fr.app N58 N60q
    obtain ⟨fs, hr, hrun, hended, hW, hsame⟩ := X60.leave (v := some (.int (1 : Int32))) (fun h => by rw [Bd.returns] at h; cases h)
    refine ⟨_, _, k61 _ ?_, hrun, hended, _, _, rfl, ?_, ⟨_, rfl⟩, hW, hsame.mono (by decide) (by decide)⟩
    · show Steps p.tables e below (T58.setTop (mkF m 24 #[.val (.int p0), .val (.long p1), .second, .val (.int (1 : Int32)), .val (.ref wVOICE_APPROVED), .val (.long p1), .second] [(.long p1), (.ref wVOICE_APPROVED)])) _
      refine st60.trans ?_
      show Steps p.tables e below (T60.setTop (mkF m 27 #[.val (.int p0), .val (.long p1), .second, .val (.int (1 : Int32)), .val (.ref wVOICE_APPROVED), .val (.long p1), .second] [(.long (p1 - (0 : Int64)))])) _
      refine XS.lload X60.here hx rfl (hb hby at_27) rfl ?_
      show Steps p.tables e below (T60.setTop (mkF m 29 #[.val (.int p0), .val (.long p1), .second, .val (.int (1 : Int32)), .val (.ref wVOICE_APPROVED), .val (.long p1), .second] [(.long p1), (.long (p1 - (0 : Int64)))])) _
      refine XS.lcmp X60.here hx rfl (hb hby at_29) rfl ?_
      show Steps p.tables e below (T60.setTop (mkF m 30 #[.val (.int p0), .val (.long p1), .second, .val (.int (1 : Int32)), .val (.ref wVOICE_APPROVED), .val (.long p1), .second] [(.int (lcmpW (p1 - (0 : Int64)) p1))])) _
      refine XS.ifNo X60.here hx rfl (hb hby at_30) rfl ((if0 _ _).trans (teq (own_lcEt ((by first | rfl | simp) : (p1 - (0 : Int64)) = p1) : (lcmpW (p1 - (0 : Int64)) p1) = (0 : Int32))).2) ?_
      show Steps p.tables e below (T60.setTop (mkF m 33 #[.val (.int p0), .val (.long p1), .second, .val (.int (1 : Int32)), .val (.ref wVOICE_APPROVED), .val (.long p1), .second] [])) _
      refine XS.iconst X60.here hx rfl (hb hby at_33) ?_
      show Steps p.tables e below (T60.setTop (mkF m 34 #[.val (.int p0), .val (.long p1), .second, .val (.int (1 : Int32)), .val (.ref wVOICE_APPROVED), .val (.long p1), .second] [(.int (1 : Int32))])) _
      refine XS.goto X60.here hx rfl (pc0 := 34) (pc' := 38) rfl (hb hby at_34) (by decide) (by decide) ?_
      show Steps p.tables e below (T60.setTop (mkF m 38 #[.val (.int p0), .val (.long p1), .second, .val (.int (1 : Int32)), .val (.ref wVOICE_APPROVED), .val (.long p1), .second] [(.int (1 : Int32))])) _
      exact retN X60 hx (t := .boolean) Bd.returns (by simp) (hb hby at_38) hr
    · show Q0 Z p0 p1 wAPPROVED wVOICE_APPROVED wINVALID_CARD wREFERRAL wLOST_OR_STOLEN wCREDIT_POSTED wNETWORK_ERROR wPICK_UP wINSUFFICIENT_FUNDS wCSC_FAILED wNETWORK_UNAVAILABLE wPARTIALLY_APPROVED h0 n0 _ T60.heap _
      rw [e60]
      exact ⟨rfl, N60⟩
  · subst hv49
    obtain ⟨_, _, ⟨T62, L62, k62, n62⟩, -, X62, ⟨Lc62, hQ62, l62, y62, z62⟩, st62⟩ := Jvm.LawKit.callS X0 hx (y := (⟨"com/example/cardstand/cardstand/scenario/ResultApprovedInCentsPinLaw", "resultFor", "(I)Lcom/example/cardstand/cardstand/scenario/PaymentAppScenario$Result;"⟩ : MethodName)) hown (mvT hZ (hw _ (List.mem_of_getElem? (i := 1) rfl))) (mvT hZ (hw _ (List.mem_of_getElem? (i := 2) rfl))) (mvT hZ (hw _ (List.mem_of_getElem? (i := 3) rfl))) (mvT hZ (hw _ (List.mem_of_getElem? (i := 4) rfl))) (by decide) (backOf (W := 0) (rm1 l Z a0 hw [] (2 : Int32) wAPPROVED wVOICE_APPROVED wINVALID_CARD wREFERRAL wLOST_OR_STOLEN wCREDIT_POSTED wNETWORK_ERROR wPICK_UP wINSUFFICIENT_FUNDS wCSC_FAILED wNETWORK_UNAVAILABLE wPARTIALLY_APPROVED h0 n0 Z0 W0 ) hZ (hw _ (List.mem_of_getElem? (i := 4) rfl)) (hw _ (List.mem_of_getElem? (i := 3) rfl)) (by decide) (by decide)) (g := (mkF m 9 #[.val (.int p0), .val (.long p1), .second, .val (.int (2 : Int32)), .unset, .unset, .unset] [(.int (2 : Int32))])) rfl (by rw [hml]; rfl) (argsL := [(.int (2 : Int32))]) (rest := []) (lenOf pd_0 rfl) rfl (by show 2 * 0 + _ ≤ _; exact Nat.le_of_eq rfl) (hb hby at_9) (fun _ _ => ⟨rfl, e0, (by decide : 0 + 0 ≤ _), (by decide : 0 + 0 ≤ _)⟩)
    dsimp only [Pt.U, Pt.locs, Pt.cells, Pt.slots] at X62 l62 y62 z62 st62 hQ62
    subst l62 y62 z62
    unfold Q1 at hQ62
    have k63 : ∀ t, Steps p.tables e below (s₁.setTop (mkF m 9 #[.val (.int p0), .val (.long p1), .second, .val (.int (2 : Int32)), .unset, .unset, .unset] [(.int (2 : Int32))])) t → Steps p.tables e below (s₁.setTop (entryFrame m #[(.int p0), (.long p1)] maxLocals)) t := fun t kt => k48 t (by
      show Steps p.tables e below (s₁.setTop (mkF m 8 #[.val (.int p0), .val (.long p1), .second, .val (.int (2 : Int32)), .unset, .unset, .unset] [])) _
      refine XS.iloadN X0.here hx rfl (hb hby at_8) rfl ?_
      exact kt)
    rw [((by rw [f1, if_neg ((by decide) : ¬ ((2 : Int32) = (0 : Int32))), if_neg ((by decide) : ¬ ((2 : Int32) = (1 : Int32))), if_pos (rfl : (2 : Int32) = (2 : Int32))]) : (f1 (2 : Int32) wAPPROVED wVOICE_APPROVED wINVALID_CARD wREFERRAL wLOST_OR_STOLEN wCREDIT_POSTED wNETWORK_ERROR wPICK_UP wINSUFFICIENT_FUNDS wCSC_FAILED wNETWORK_UNAVAILABLE wPARTIALLY_APPROVED) = wINVALID_CARD)] at hQ62
    obtain ⟨rfl, N62q, e62⟩ := hQ62
    have N62 := Fr.app N0 N62q
    obtain ⟨_, _, ⟨T64, L64, k64, n64⟩, -, X64, ⟨Lc64, hQ64, l64, y64, z64⟩, st64⟩ := Jvm.LawKit.callS X62 hx (y := (⟨"com/example/cardstand/cardstand/scenario/ResultApprovedInCentsPinLaw", "expectedFor", "(IJ)J"⟩ : MethodName)) hown (mvT hZ (hw _ (List.mem_of_getElem? (i := 8) rfl))) (mvT hZ (hw _ (List.mem_of_getElem? (i := 9) rfl))) (mvT hZ (hw _ (List.mem_of_getElem? (i := 3) rfl))) (mvT hZ (hw _ (List.mem_of_getElem? (i := 10) rfl))) (by decide) (backOf (W := 0) (rm2 l Z a0 hw [] (2 : Int32) p1 h0 n0 Z0 ) hZ (hw _ (List.mem_of_getElem? (i := 10) rfl)) (hw _ (List.mem_of_getElem? (i := 3) rfl)) (by decide) (by decide)) (g := (mkF m 16 #[.val (.int p0), .val (.long p1), .second, .val (.int (2 : Int32)), .val (.ref wINVALID_CARD), .unset, .unset] [(.long p1), (.int (2 : Int32))])) rfl (by rw [hml]; rfl) (argsL := [(.int (2 : Int32)), (.long p1)]) (rest := []) (lenOf pd_1 rfl) rfl (by show 2 * 0 + _ ≤ _; exact Nat.le_of_eq rfl) (hb hby at_16) (fun _ _ => ⟨rfl, e62, (by decide : 0 + 0 ≤ _), (by decide : 0 + 0 ≤ _)⟩)
    dsimp only [Pt.U, Pt.locs, Pt.cells, Pt.slots] at X64 l64 y64 z64 st64 hQ64
    subst l64 y64 z64
    unfold Q2 at hQ64
    have k65 : ∀ t, Steps p.tables e below (T62.setTop (mkF m 16 #[.val (.int p0), .val (.long p1), .second, .val (.int (2 : Int32)), .val (.ref wINVALID_CARD), .unset, .unset] [(.long p1), (.int (2 : Int32))])) t → Steps p.tables e below (s₁.setTop (entryFrame m #[(.int p0), (.long p1)] maxLocals)) t := fun t kt => k63 t (by
      show Steps p.tables e below (s₁.setTop (mkF m 9 #[.val (.int p0), .val (.long p1), .second, .val (.int (2 : Int32)), .unset, .unset, .unset] [(.int (2 : Int32))])) _
      refine st62 _ ?_
      show Steps p.tables e below (T62.setTop (mkF m 12 #[.val (.int p0), .val (.long p1), .second, .val (.int (2 : Int32)), .unset, .unset, .unset] [(.ref wINVALID_CARD)])) _
      refine XS.astore X62.here hx rfl (hb hby at_12) rfl rfl (l' := #[.val (.int p0), .val (.long p1), .second, .val (.int (2 : Int32)), .val (.ref wINVALID_CARD), .unset, .unset]) rfl ?_
      show Steps p.tables e below (T62.setTop (mkF m 14 #[.val (.int p0), .val (.long p1), .second, .val (.int (2 : Int32)), .val (.ref wINVALID_CARD), .unset, .unset] [])) _
      refine XS.iloadN X62.here hx rfl (hb hby at_14) rfl ?_
      show Steps p.tables e below (T62.setTop (mkF m 15 #[.val (.int p0), .val (.long p1), .second, .val (.int (2 : Int32)), .val (.ref wINVALID_CARD), .unset, .unset] [(.int (2 : Int32))])) _
      refine XS.lloadN X62.here hx rfl (hb hby at_15) rfl ?_
      exact kt)
    rw [((by rw [f2, if_neg ((by decide) : ¬ ((2 : Int32) = (0 : Int32))), if_neg ((by decide) : ¬ ((2 : Int32) = (1 : Int32))), if_neg ((by decide) : ¬ ((2 : Int32) = (11 : Int32))), if_neg ((by decide) : ¬ ((2 : Int32) = (10 : Int32)))]) : (f2 (2 : Int32) p1) = (0 : Int64))] at hQ64
    obtain ⟨rfl, N64q, e64⟩ := hQ64
    have N64 := Fr.app N62 N64q
    obtain ⟨cq66, kq66, q66a, q66b, q66c⟩ := isOf hZ e64 EINVALID_CARD
    obtain ⟨_, _, ⟨T66, L66, k66, n66⟩, -, X66, ⟨Lc66, hQ66, l66, y66, z66⟩, st66⟩ := X64.virtualBack hx (y := (⟨"com/example/cardstand/cardstand/scenario/PaymentAppScenario$Result", "approvedInCents", "(J)J"⟩ : MethodName)) (z := (⟨"com/example/cardstand/cardstand/scenario/PaymentAppScenario$Result", "approvedInCents", "(J)J"⟩ : MethodName)) hown (mvT hZ (hw _ (List.mem_of_getElem? (i := 11) rfl))) (mvT hZ (hw _ (List.mem_of_getElem? (i := 12) rfl))) (notFace_of_selects (args := #[]) (mvT hZ (hw _ (List.mem_of_getElem? (i := 14) rfl)))) (mvT hZ (hw _ (List.mem_of_getElem? (i := 14) rfl))) (mvT hZ (hw _ (List.mem_of_getElem? (i := 13) rfl))) (by decide) (backOf (W := 0) (rm3 l Z a0 hw [] wINVALID_CARD p1 (0 : Int32) (0 : Int64) h0 n0 Z0 FINVALID_CARD_approved FINVALID_CARD_heldBackInCents) hZ (hw _ (List.mem_of_getElem? (i := 15) rfl)) (hw _ (List.mem_of_getElem? (i := 6) rfl)) (by decide) (by decide)) q66a q66c (g := (mkF m 24 #[.val (.int p0), .val (.long p1), .second, .val (.int (2 : Int32)), .val (.ref wINVALID_CARD), .val (.long (0 : Int64)), .second] [(.long p1), (.ref wINVALID_CARD)])) rfl (by rw [hml]; rfl) (Steps.refl _) (argsL := [(.long p1)]) (rest := []) (lenOf pd_2 rfl) rfl (by show 2 * 0 + _ ≤ _; exact Nat.le_of_eq rfl) (hb hby at_24) (fun _ _ => ⟨rfl, e64, (by decide : 0 + 0 ≤ _), (by decide : 0 + 0 ≤ _)⟩)
    dsimp only [Pt.U, Pt.locs, Pt.cells, Pt.slots] at X66 l66 y66 z66 st66 hQ66
    subst l66 y66 z66
    unfold Q3 at hQ66
    have k67 : ∀ t, Steps p.tables e below (T64.setTop (mkF m 24 #[.val (.int p0), .val (.long p1), .second, .val (.int (2 : Int32)), .val (.ref wINVALID_CARD), .val (.long (0 : Int64)), .second] [(.long p1), (.ref wINVALID_CARD)])) t → Steps p.tables e below (s₁.setTop (entryFrame m #[(.int p0), (.long p1)] maxLocals)) t := fun t kt => k65 t (by
      show Steps p.tables e below (T62.setTop (mkF m 16 #[.val (.int p0), .val (.long p1), .second, .val (.int (2 : Int32)), .val (.ref wINVALID_CARD), .unset, .unset] [(.long p1), (.int (2 : Int32))])) _
      refine st64 _ ?_
      show Steps p.tables e below (T64.setTop (mkF m 19 #[.val (.int p0), .val (.long p1), .second, .val (.int (2 : Int32)), .val (.ref wINVALID_CARD), .unset, .unset] [(.long (0 : Int64))])) _
      refine XS.lstore X64.here hx rfl (hb hby at_19) rfl (l' := #[.val (.int p0), .val (.long p1), .second, .val (.int (2 : Int32)), .val (.ref wINVALID_CARD), .val (.long (0 : Int64)), .second]) rfl ?_
      show Steps p.tables e below (T64.setTop (mkF m 21 #[.val (.int p0), .val (.long p1), .second, .val (.int (2 : Int32)), .val (.ref wINVALID_CARD), .val (.long (0 : Int64)), .second] [])) _
      refine XS.aload X64.here hx rfl (hb hby at_21) rfl rfl ?_
      show Steps p.tables e below (T64.setTop (mkF m 23 #[.val (.int p0), .val (.long p1), .second, .val (.int (2 : Int32)), .val (.ref wINVALID_CARD), .val (.long (0 : Int64)), .second] [(.ref wINVALID_CARD)])) _
      refine XS.lloadN X64.here hx rfl (hb hby at_23) rfl ?_
      exact kt)
    rw [((by rw [f3, if_pos (rfl : (0 : Int32) = (0 : Int32))]) : (f3 wINVALID_CARD p1 (0 : Int32) (0 : Int64)) = (0 : Int64))] at hQ66
    obtain ⟨rfl, N66q, e66⟩ := hQ66
    have N66 := Fr.app N64 N66q
    obtain ⟨fs, hr, hrun, hended, hW, hsame⟩ := X66.leave (v := some (.int (1 : Int32))) (fun h => by rw [Bd.returns] at h; cases h)
    refine ⟨_, _, k67 _ ?_, hrun, hended, _, _, rfl, ?_, ⟨_, rfl⟩, hW, hsame.mono (by decide) (by decide)⟩
    · show Steps p.tables e below (T64.setTop (mkF m 24 #[.val (.int p0), .val (.long p1), .second, .val (.int (2 : Int32)), .val (.ref wINVALID_CARD), .val (.long (0 : Int64)), .second] [(.long p1), (.ref wINVALID_CARD)])) _
      refine st66.trans ?_
      show Steps p.tables e below (T66.setTop (mkF m 27 #[.val (.int p0), .val (.long p1), .second, .val (.int (2 : Int32)), .val (.ref wINVALID_CARD), .val (.long (0 : Int64)), .second] [(.long (0 : Int64))])) _
      refine XS.lload X66.here hx rfl (hb hby at_27) rfl ?_
      show Steps p.tables e below (T66.setTop (mkF m 29 #[.val (.int p0), .val (.long p1), .second, .val (.int (2 : Int32)), .val (.ref wINVALID_CARD), .val (.long (0 : Int64)), .second] [(.long (0 : Int64)), (.long (0 : Int64))])) _
      refine XS.lcmp X66.here hx rfl (hb hby at_29) rfl ?_
      show Steps p.tables e below (T66.setTop (mkF m 30 #[.val (.int p0), .val (.long p1), .second, .val (.int (2 : Int32)), .val (.ref wINVALID_CARD), .val (.long (0 : Int64)), .second] [(.int (lcmpW (0 : Int64) (0 : Int64)))])) _
      refine XS.ifNo X66.here hx rfl (hb hby at_30) rfl ((if0 _ _).trans (teq (own_lcEt (rfl : (0 : Int64) = (0 : Int64)) : (lcmpW (0 : Int64) (0 : Int64)) = (0 : Int32))).2) ?_
      show Steps p.tables e below (T66.setTop (mkF m 33 #[.val (.int p0), .val (.long p1), .second, .val (.int (2 : Int32)), .val (.ref wINVALID_CARD), .val (.long (0 : Int64)), .second] [])) _
      refine XS.iconst X66.here hx rfl (hb hby at_33) ?_
      show Steps p.tables e below (T66.setTop (mkF m 34 #[.val (.int p0), .val (.long p1), .second, .val (.int (2 : Int32)), .val (.ref wINVALID_CARD), .val (.long (0 : Int64)), .second] [(.int (1 : Int32))])) _
      refine XS.goto X66.here hx rfl (pc0 := 34) (pc' := 38) rfl (hb hby at_34) (by decide) (by decide) ?_
      show Steps p.tables e below (T66.setTop (mkF m 38 #[.val (.int p0), .val (.long p1), .second, .val (.int (2 : Int32)), .val (.ref wINVALID_CARD), .val (.long (0 : Int64)), .second] [(.int (1 : Int32))])) _
      exact retN X66 hx (t := .boolean) Bd.returns (by simp) (hb hby at_38) hr
    · show Q0 Z p0 p1 wAPPROVED wVOICE_APPROVED wINVALID_CARD wREFERRAL wLOST_OR_STOLEN wCREDIT_POSTED wNETWORK_ERROR wPICK_UP wINSUFFICIENT_FUNDS wCSC_FAILED wNETWORK_UNAVAILABLE wPARTIALLY_APPROVED h0 n0 _ T66.heap _
      rw [e66]
      exact ⟨rfl, N66⟩
  · subst hv49
    obtain ⟨_, _, ⟨T68, L68, k68, n68⟩, -, X68, ⟨Lc68, hQ68, l68, y68, z68⟩, st68⟩ := Jvm.LawKit.callS X0 hx (y := (⟨"com/example/cardstand/cardstand/scenario/ResultApprovedInCentsPinLaw", "resultFor", "(I)Lcom/example/cardstand/cardstand/scenario/PaymentAppScenario$Result;"⟩ : MethodName)) hown (mvT hZ (hw _ (List.mem_of_getElem? (i := 1) rfl))) (mvT hZ (hw _ (List.mem_of_getElem? (i := 2) rfl))) (mvT hZ (hw _ (List.mem_of_getElem? (i := 3) rfl))) (mvT hZ (hw _ (List.mem_of_getElem? (i := 4) rfl))) (by decide) (backOf (W := 0) (rm1 l Z a0 hw [] (3 : Int32) wAPPROVED wVOICE_APPROVED wINVALID_CARD wREFERRAL wLOST_OR_STOLEN wCREDIT_POSTED wNETWORK_ERROR wPICK_UP wINSUFFICIENT_FUNDS wCSC_FAILED wNETWORK_UNAVAILABLE wPARTIALLY_APPROVED h0 n0 Z0 W0 ) hZ (hw _ (List.mem_of_getElem? (i := 4) rfl)) (hw _ (List.mem_of_getElem? (i := 3) rfl)) (by decide) (by decide)) (g := (mkF m 9 #[.val (.int p0), .val (.long p1), .second, .val (.int (3 : Int32)), .unset, .unset, .unset] [(.int (3 : Int32))])) rfl (by rw [hml]; rfl) (argsL := [(.int (3 : Int32))]) (rest := []) (lenOf pd_0 rfl) rfl (by show 2 * 0 + _ ≤ _; exact Nat.le_of_eq rfl) (hb hby at_9) (fun _ _ => ⟨rfl, e0, (by decide : 0 + 0 ≤ _), (by decide : 0 + 0 ≤ _)⟩)
    dsimp only [Pt.U, Pt.locs, Pt.cells, Pt.slots] at X68 l68 y68 z68 st68 hQ68
    subst l68 y68 z68
    unfold Q1 at hQ68
    have k69 : ∀ t, Steps p.tables e below (s₁.setTop (mkF m 9 #[.val (.int p0), .val (.long p1), .second, .val (.int (3 : Int32)), .unset, .unset, .unset] [(.int (3 : Int32))])) t → Steps p.tables e below (s₁.setTop (entryFrame m #[(.int p0), (.long p1)] maxLocals)) t := fun t kt => k48 t (by
      show Steps p.tables e below (s₁.setTop (mkF m 8 #[.val (.int p0), .val (.long p1), .second, .val (.int (3 : Int32)), .unset, .unset, .unset] [])) _
      refine XS.iloadN X0.here hx rfl (hb hby at_8) rfl ?_
      exact kt)
    rw [((by rw [f1, if_neg ((by decide) : ¬ ((3 : Int32) = (0 : Int32))), if_neg ((by decide) : ¬ ((3 : Int32) = (1 : Int32))), if_neg ((by decide) : ¬ ((3 : Int32) = (2 : Int32))), if_pos (rfl : (3 : Int32) = (3 : Int32))]) : (f1 (3 : Int32) wAPPROVED wVOICE_APPROVED wINVALID_CARD wREFERRAL wLOST_OR_STOLEN wCREDIT_POSTED wNETWORK_ERROR wPICK_UP wINSUFFICIENT_FUNDS wCSC_FAILED wNETWORK_UNAVAILABLE wPARTIALLY_APPROVED) = wLOST_OR_STOLEN)] at hQ68
    obtain ⟨rfl, N68q, e68⟩ := hQ68
    have N68 := Fr.app N0 N68q
    obtain ⟨_, _, ⟨T70, L70, k70, n70⟩, -, X70, ⟨Lc70, hQ70, l70, y70, z70⟩, st70⟩ := Jvm.LawKit.callS X68 hx (y := (⟨"com/example/cardstand/cardstand/scenario/ResultApprovedInCentsPinLaw", "expectedFor", "(IJ)J"⟩ : MethodName)) hown (mvT hZ (hw _ (List.mem_of_getElem? (i := 8) rfl))) (mvT hZ (hw _ (List.mem_of_getElem? (i := 9) rfl))) (mvT hZ (hw _ (List.mem_of_getElem? (i := 3) rfl))) (mvT hZ (hw _ (List.mem_of_getElem? (i := 10) rfl))) (by decide) (backOf (W := 0) (rm2 l Z a0 hw [] (3 : Int32) p1 h0 n0 Z0 ) hZ (hw _ (List.mem_of_getElem? (i := 10) rfl)) (hw _ (List.mem_of_getElem? (i := 3) rfl)) (by decide) (by decide)) (g := (mkF m 16 #[.val (.int p0), .val (.long p1), .second, .val (.int (3 : Int32)), .val (.ref wLOST_OR_STOLEN), .unset, .unset] [(.long p1), (.int (3 : Int32))])) rfl (by rw [hml]; rfl) (argsL := [(.int (3 : Int32)), (.long p1)]) (rest := []) (lenOf pd_1 rfl) rfl (by show 2 * 0 + _ ≤ _; exact Nat.le_of_eq rfl) (hb hby at_16) (fun _ _ => ⟨rfl, e68, (by decide : 0 + 0 ≤ _), (by decide : 0 + 0 ≤ _)⟩)
    dsimp only [Pt.U, Pt.locs, Pt.cells, Pt.slots] at X70 l70 y70 z70 st70 hQ70
    subst l70 y70 z70
    unfold Q2 at hQ70
    have k71 : ∀ t, Steps p.tables e below (T68.setTop (mkF m 16 #[.val (.int p0), .val (.long p1), .second, .val (.int (3 : Int32)), .val (.ref wLOST_OR_STOLEN), .unset, .unset] [(.long p1), (.int (3 : Int32))])) t → Steps p.tables e below (s₁.setTop (entryFrame m #[(.int p0), (.long p1)] maxLocals)) t := fun t kt => k69 t (by
      show Steps p.tables e below (s₁.setTop (mkF m 9 #[.val (.int p0), .val (.long p1), .second, .val (.int (3 : Int32)), .unset, .unset, .unset] [(.int (3 : Int32))])) _
      refine st68 _ ?_
      show Steps p.tables e below (T68.setTop (mkF m 12 #[.val (.int p0), .val (.long p1), .second, .val (.int (3 : Int32)), .unset, .unset, .unset] [(.ref wLOST_OR_STOLEN)])) _
      refine XS.astore X68.here hx rfl (hb hby at_12) rfl rfl (l' := #[.val (.int p0), .val (.long p1), .second, .val (.int (3 : Int32)), .val (.ref wLOST_OR_STOLEN), .unset, .unset]) rfl ?_
      show Steps p.tables e below (T68.setTop (mkF m 14 #[.val (.int p0), .val (.long p1), .second, .val (.int (3 : Int32)), .val (.ref wLOST_OR_STOLEN), .unset, .unset] [])) _
      refine XS.iloadN X68.here hx rfl (hb hby at_14) rfl ?_
      show Steps p.tables e below (T68.setTop (mkF m 15 #[.val (.int p0), .val (.long p1), .second, .val (.int (3 : Int32)), .val (.ref wLOST_OR_STOLEN), .unset, .unset] [(.int (3 : Int32))])) _
      refine XS.lloadN X68.here hx rfl (hb hby at_15) rfl ?_
      exact kt)
    rw [((by rw [f2, if_neg ((by decide) : ¬ ((3 : Int32) = (0 : Int32))), if_neg ((by decide) : ¬ ((3 : Int32) = (1 : Int32))), if_neg ((by decide) : ¬ ((3 : Int32) = (11 : Int32))), if_neg ((by decide) : ¬ ((3 : Int32) = (10 : Int32)))]) : (f2 (3 : Int32) p1) = (0 : Int64))] at hQ70
    obtain ⟨rfl, N70q, e70⟩ := hQ70
    have N70 := Fr.app N68 N70q
    obtain ⟨cq72, kq72, q72a, q72b, q72c⟩ := isOf hZ e70 ELOST_OR_STOLEN
    obtain ⟨_, _, ⟨T72, L72, k72, n72⟩, -, X72, ⟨Lc72, hQ72, l72, y72, z72⟩, st72⟩ := X70.virtualBack hx (y := (⟨"com/example/cardstand/cardstand/scenario/PaymentAppScenario$Result", "approvedInCents", "(J)J"⟩ : MethodName)) (z := (⟨"com/example/cardstand/cardstand/scenario/PaymentAppScenario$Result", "approvedInCents", "(J)J"⟩ : MethodName)) hown (mvT hZ (hw _ (List.mem_of_getElem? (i := 11) rfl))) (mvT hZ (hw _ (List.mem_of_getElem? (i := 12) rfl))) (notFace_of_selects (args := #[]) (mvT hZ (hw _ (List.mem_of_getElem? (i := 14) rfl)))) (mvT hZ (hw _ (List.mem_of_getElem? (i := 14) rfl))) (mvT hZ (hw _ (List.mem_of_getElem? (i := 13) rfl))) (by decide) (backOf (W := 0) (rm3 l Z a0 hw [] wLOST_OR_STOLEN p1 (0 : Int32) (0 : Int64) h0 n0 Z0 FLOST_OR_STOLEN_approved FLOST_OR_STOLEN_heldBackInCents) hZ (hw _ (List.mem_of_getElem? (i := 15) rfl)) (hw _ (List.mem_of_getElem? (i := 6) rfl)) (by decide) (by decide)) q72a q72c (g := (mkF m 24 #[.val (.int p0), .val (.long p1), .second, .val (.int (3 : Int32)), .val (.ref wLOST_OR_STOLEN), .val (.long (0 : Int64)), .second] [(.long p1), (.ref wLOST_OR_STOLEN)])) rfl (by rw [hml]; rfl) (Steps.refl _) (argsL := [(.long p1)]) (rest := []) (lenOf pd_2 rfl) rfl (by show 2 * 0 + _ ≤ _; exact Nat.le_of_eq rfl) (hb hby at_24) (fun _ _ => ⟨rfl, e70, (by decide : 0 + 0 ≤ _), (by decide : 0 + 0 ≤ _)⟩)
    dsimp only [Pt.U, Pt.locs, Pt.cells, Pt.slots] at X72 l72 y72 z72 st72 hQ72
    subst l72 y72 z72
    unfold Q3 at hQ72
    have k73 : ∀ t, Steps p.tables e below (T70.setTop (mkF m 24 #[.val (.int p0), .val (.long p1), .second, .val (.int (3 : Int32)), .val (.ref wLOST_OR_STOLEN), .val (.long (0 : Int64)), .second] [(.long p1), (.ref wLOST_OR_STOLEN)])) t → Steps p.tables e below (s₁.setTop (entryFrame m #[(.int p0), (.long p1)] maxLocals)) t := fun t kt => k71 t (by
      show Steps p.tables e below (T68.setTop (mkF m 16 #[.val (.int p0), .val (.long p1), .second, .val (.int (3 : Int32)), .val (.ref wLOST_OR_STOLEN), .unset, .unset] [(.long p1), (.int (3 : Int32))])) _
      refine st70 _ ?_
      show Steps p.tables e below (T70.setTop (mkF m 19 #[.val (.int p0), .val (.long p1), .second, .val (.int (3 : Int32)), .val (.ref wLOST_OR_STOLEN), .unset, .unset] [(.long (0 : Int64))])) _
      refine XS.lstore X70.here hx rfl (hb hby at_19) rfl (l' := #[.val (.int p0), .val (.long p1), .second, .val (.int (3 : Int32)), .val (.ref wLOST_OR_STOLEN), .val (.long (0 : Int64)), .second]) rfl ?_
      show Steps p.tables e below (T70.setTop (mkF m 21 #[.val (.int p0), .val (.long p1), .second, .val (.int (3 : Int32)), .val (.ref wLOST_OR_STOLEN), .val (.long (0 : Int64)), .second] [])) _
      refine XS.aload X70.here hx rfl (hb hby at_21) rfl rfl ?_
      show Steps p.tables e below (T70.setTop (mkF m 23 #[.val (.int p0), .val (.long p1), .second, .val (.int (3 : Int32)), .val (.ref wLOST_OR_STOLEN), .val (.long (0 : Int64)), .second] [(.ref wLOST_OR_STOLEN)])) _
      refine XS.lloadN X70.here hx rfl (hb hby at_23) rfl ?_
      exact kt)
    rw [((by rw [f3, if_pos (rfl : (0 : Int32) = (0 : Int32))]) : (f3 wLOST_OR_STOLEN p1 (0 : Int32) (0 : Int64)) = (0 : Int64))] at hQ72
    obtain ⟨rfl, N72q, e72⟩ := hQ72
    have N72 := Fr.app N70 N72q
    obtain ⟨fs, hr, hrun, hended, hW, hsame⟩ := X72.leave (v := some (.int (1 : Int32))) (fun h => by rw [Bd.returns] at h; cases h)
    refine ⟨_, _, k73 _ ?_, hrun, hended, _, _, rfl, ?_, ⟨_, rfl⟩, hW, hsame.mono (by decide) (by decide)⟩
    · show Steps p.tables e below (T70.setTop (mkF m 24 #[.val (.int p0), .val (.long p1), .second, .val (.int (3 : Int32)), .val (.ref wLOST_OR_STOLEN), .val (.long (0 : Int64)), .second] [(.long p1), (.ref wLOST_OR_STOLEN)])) _
      refine st72.trans ?_
      show Steps p.tables e below (T72.setTop (mkF m 27 #[.val (.int p0), .val (.long p1), .second, .val (.int (3 : Int32)), .val (.ref wLOST_OR_STOLEN), .val (.long (0 : Int64)), .second] [(.long (0 : Int64))])) _
      refine XS.lload X72.here hx rfl (hb hby at_27) rfl ?_
      show Steps p.tables e below (T72.setTop (mkF m 29 #[.val (.int p0), .val (.long p1), .second, .val (.int (3 : Int32)), .val (.ref wLOST_OR_STOLEN), .val (.long (0 : Int64)), .second] [(.long (0 : Int64)), (.long (0 : Int64))])) _
      refine XS.lcmp X72.here hx rfl (hb hby at_29) rfl ?_
      show Steps p.tables e below (T72.setTop (mkF m 30 #[.val (.int p0), .val (.long p1), .second, .val (.int (3 : Int32)), .val (.ref wLOST_OR_STOLEN), .val (.long (0 : Int64)), .second] [(.int (lcmpW (0 : Int64) (0 : Int64)))])) _
      refine XS.ifNo X72.here hx rfl (hb hby at_30) rfl ((if0 _ _).trans (teq (own_lcEt (rfl : (0 : Int64) = (0 : Int64)) : (lcmpW (0 : Int64) (0 : Int64)) = (0 : Int32))).2) ?_
      show Steps p.tables e below (T72.setTop (mkF m 33 #[.val (.int p0), .val (.long p1), .second, .val (.int (3 : Int32)), .val (.ref wLOST_OR_STOLEN), .val (.long (0 : Int64)), .second] [])) _
      refine XS.iconst X72.here hx rfl (hb hby at_33) ?_
      show Steps p.tables e below (T72.setTop (mkF m 34 #[.val (.int p0), .val (.long p1), .second, .val (.int (3 : Int32)), .val (.ref wLOST_OR_STOLEN), .val (.long (0 : Int64)), .second] [(.int (1 : Int32))])) _
      refine XS.goto X72.here hx rfl (pc0 := 34) (pc' := 38) rfl (hb hby at_34) (by decide) (by decide) ?_
      show Steps p.tables e below (T72.setTop (mkF m 38 #[.val (.int p0), .val (.long p1), .second, .val (.int (3 : Int32)), .val (.ref wLOST_OR_STOLEN), .val (.long (0 : Int64)), .second] [(.int (1 : Int32))])) _
      exact retN X72 hx (t := .boolean) Bd.returns (by simp) (hb hby at_38) hr
    · show Q0 Z p0 p1 wAPPROVED wVOICE_APPROVED wINVALID_CARD wREFERRAL wLOST_OR_STOLEN wCREDIT_POSTED wNETWORK_ERROR wPICK_UP wINSUFFICIENT_FUNDS wCSC_FAILED wNETWORK_UNAVAILABLE wPARTIALLY_APPROVED h0 n0 _ T72.heap _
      rw [e72]
      exact ⟨rfl, N72⟩
  · subst hv49
    obtain ⟨_, _, ⟨T74, L74, k74, n74⟩, -, X74, ⟨Lc74, hQ74, l74, y74, z74⟩, st74⟩ := Jvm.LawKit.callS X0 hx (y := (⟨"com/example/cardstand/cardstand/scenario/ResultApprovedInCentsPinLaw", "resultFor", "(I)Lcom/example/cardstand/cardstand/scenario/PaymentAppScenario$Result;"⟩ : MethodName)) hown (mvT hZ (hw _ (List.mem_of_getElem? (i := 1) rfl))) (mvT hZ (hw _ (List.mem_of_getElem? (i := 2) rfl))) (mvT hZ (hw _ (List.mem_of_getElem? (i := 3) rfl))) (mvT hZ (hw _ (List.mem_of_getElem? (i := 4) rfl))) (by decide) (backOf (W := 0) (rm1 l Z a0 hw [] (4 : Int32) wAPPROVED wVOICE_APPROVED wINVALID_CARD wREFERRAL wLOST_OR_STOLEN wCREDIT_POSTED wNETWORK_ERROR wPICK_UP wINSUFFICIENT_FUNDS wCSC_FAILED wNETWORK_UNAVAILABLE wPARTIALLY_APPROVED h0 n0 Z0 W0 ) hZ (hw _ (List.mem_of_getElem? (i := 4) rfl)) (hw _ (List.mem_of_getElem? (i := 3) rfl)) (by decide) (by decide)) (g := (mkF m 9 #[.val (.int p0), .val (.long p1), .second, .val (.int (4 : Int32)), .unset, .unset, .unset] [(.int (4 : Int32))])) rfl (by rw [hml]; rfl) (argsL := [(.int (4 : Int32))]) (rest := []) (lenOf pd_0 rfl) rfl (by show 2 * 0 + _ ≤ _; exact Nat.le_of_eq rfl) (hb hby at_9) (fun _ _ => ⟨rfl, e0, (by decide : 0 + 0 ≤ _), (by decide : 0 + 0 ≤ _)⟩)
    dsimp only [Pt.U, Pt.locs, Pt.cells, Pt.slots] at X74 l74 y74 z74 st74 hQ74
    subst l74 y74 z74
    unfold Q1 at hQ74
    have k75 : ∀ t, Steps p.tables e below (s₁.setTop (mkF m 9 #[.val (.int p0), .val (.long p1), .second, .val (.int (4 : Int32)), .unset, .unset, .unset] [(.int (4 : Int32))])) t → Steps p.tables e below (s₁.setTop (entryFrame m #[(.int p0), (.long p1)] maxLocals)) t := fun t kt => k48 t (by
      show Steps p.tables e below (s₁.setTop (mkF m 8 #[.val (.int p0), .val (.long p1), .second, .val (.int (4 : Int32)), .unset, .unset, .unset] [])) _
      refine XS.iloadN X0.here hx rfl (hb hby at_8) rfl ?_
      exact kt)
    rw [((by rw [f1, if_neg ((by decide) : ¬ ((4 : Int32) = (0 : Int32))), if_neg ((by decide) : ¬ ((4 : Int32) = (1 : Int32))), if_neg ((by decide) : ¬ ((4 : Int32) = (2 : Int32))), if_neg ((by decide) : ¬ ((4 : Int32) = (3 : Int32))), if_pos (rfl : (4 : Int32) = (4 : Int32))]) : (f1 (4 : Int32) wAPPROVED wVOICE_APPROVED wINVALID_CARD wREFERRAL wLOST_OR_STOLEN wCREDIT_POSTED wNETWORK_ERROR wPICK_UP wINSUFFICIENT_FUNDS wCSC_FAILED wNETWORK_UNAVAILABLE wPARTIALLY_APPROVED) = wREFERRAL)] at hQ74
    obtain ⟨rfl, N74q, e74⟩ := hQ74
    have N74 := Fr.app N0 N74q
    obtain ⟨_, _, ⟨T76, L76, k76, n76⟩, -, X76, ⟨Lc76, hQ76, l76, y76, z76⟩, st76⟩ := Jvm.LawKit.callS X74 hx (y := (⟨"com/example/cardstand/cardstand/scenario/ResultApprovedInCentsPinLaw", "expectedFor", "(IJ)J"⟩ : MethodName)) hown (mvT hZ (hw _ (List.mem_of_getElem? (i := 8) rfl))) (mvT hZ (hw _ (List.mem_of_getElem? (i := 9) rfl))) (mvT hZ (hw _ (List.mem_of_getElem? (i := 3) rfl))) (mvT hZ (hw _ (List.mem_of_getElem? (i := 10) rfl))) (by decide) (backOf (W := 0) (rm2 l Z a0 hw [] (4 : Int32) p1 h0 n0 Z0 ) hZ (hw _ (List.mem_of_getElem? (i := 10) rfl)) (hw _ (List.mem_of_getElem? (i := 3) rfl)) (by decide) (by decide)) (g := (mkF m 16 #[.val (.int p0), .val (.long p1), .second, .val (.int (4 : Int32)), .val (.ref wREFERRAL), .unset, .unset] [(.long p1), (.int (4 : Int32))])) rfl (by rw [hml]; rfl) (argsL := [(.int (4 : Int32)), (.long p1)]) (rest := []) (lenOf pd_1 rfl) rfl (by show 2 * 0 + _ ≤ _; exact Nat.le_of_eq rfl) (hb hby at_16) (fun _ _ => ⟨rfl, e74, (by decide : 0 + 0 ≤ _), (by decide : 0 + 0 ≤ _)⟩)
    dsimp only [Pt.U, Pt.locs, Pt.cells, Pt.slots] at X76 l76 y76 z76 st76 hQ76
    subst l76 y76 z76
    unfold Q2 at hQ76
    have k77 : ∀ t, Steps p.tables e below (T74.setTop (mkF m 16 #[.val (.int p0), .val (.long p1), .second, .val (.int (4 : Int32)), .val (.ref wREFERRAL), .unset, .unset] [(.long p1), (.int (4 : Int32))])) t → Steps p.tables e below (s₁.setTop (entryFrame m #[(.int p0), (.long p1)] maxLocals)) t := fun t kt => k75 t (by
      show Steps p.tables e below (s₁.setTop (mkF m 9 #[.val (.int p0), .val (.long p1), .second, .val (.int (4 : Int32)), .unset, .unset, .unset] [(.int (4 : Int32))])) _
      refine st74 _ ?_
      show Steps p.tables e below (T74.setTop (mkF m 12 #[.val (.int p0), .val (.long p1), .second, .val (.int (4 : Int32)), .unset, .unset, .unset] [(.ref wREFERRAL)])) _
      refine XS.astore X74.here hx rfl (hb hby at_12) rfl rfl (l' := #[.val (.int p0), .val (.long p1), .second, .val (.int (4 : Int32)), .val (.ref wREFERRAL), .unset, .unset]) rfl ?_
      show Steps p.tables e below (T74.setTop (mkF m 14 #[.val (.int p0), .val (.long p1), .second, .val (.int (4 : Int32)), .val (.ref wREFERRAL), .unset, .unset] [])) _
      refine XS.iloadN X74.here hx rfl (hb hby at_14) rfl ?_
      show Steps p.tables e below (T74.setTop (mkF m 15 #[.val (.int p0), .val (.long p1), .second, .val (.int (4 : Int32)), .val (.ref wREFERRAL), .unset, .unset] [(.int (4 : Int32))])) _
      refine XS.lloadN X74.here hx rfl (hb hby at_15) rfl ?_
      exact kt)
    rw [((by rw [f2, if_neg ((by decide) : ¬ ((4 : Int32) = (0 : Int32))), if_neg ((by decide) : ¬ ((4 : Int32) = (1 : Int32))), if_neg ((by decide) : ¬ ((4 : Int32) = (11 : Int32))), if_neg ((by decide) : ¬ ((4 : Int32) = (10 : Int32)))]) : (f2 (4 : Int32) p1) = (0 : Int64))] at hQ76
    obtain ⟨rfl, N76q, e76⟩ := hQ76
    have N76 := Fr.app N74 N76q
    obtain ⟨cq78, kq78, q78a, q78b, q78c⟩ := isOf hZ e76 EREFERRAL
    obtain ⟨_, _, ⟨T78, L78, k78, n78⟩, -, X78, ⟨Lc78, hQ78, l78, y78, z78⟩, st78⟩ := X76.virtualBack hx (y := (⟨"com/example/cardstand/cardstand/scenario/PaymentAppScenario$Result", "approvedInCents", "(J)J"⟩ : MethodName)) (z := (⟨"com/example/cardstand/cardstand/scenario/PaymentAppScenario$Result", "approvedInCents", "(J)J"⟩ : MethodName)) hown (mvT hZ (hw _ (List.mem_of_getElem? (i := 11) rfl))) (mvT hZ (hw _ (List.mem_of_getElem? (i := 12) rfl))) (notFace_of_selects (args := #[]) (mvT hZ (hw _ (List.mem_of_getElem? (i := 14) rfl)))) (mvT hZ (hw _ (List.mem_of_getElem? (i := 14) rfl))) (mvT hZ (hw _ (List.mem_of_getElem? (i := 13) rfl))) (by decide) (backOf (W := 0) (rm3 l Z a0 hw [] wREFERRAL p1 (0 : Int32) (0 : Int64) h0 n0 Z0 FREFERRAL_approved FREFERRAL_heldBackInCents) hZ (hw _ (List.mem_of_getElem? (i := 15) rfl)) (hw _ (List.mem_of_getElem? (i := 6) rfl)) (by decide) (by decide)) q78a q78c (g := (mkF m 24 #[.val (.int p0), .val (.long p1), .second, .val (.int (4 : Int32)), .val (.ref wREFERRAL), .val (.long (0 : Int64)), .second] [(.long p1), (.ref wREFERRAL)])) rfl (by rw [hml]; rfl) (Steps.refl _) (argsL := [(.long p1)]) (rest := []) (lenOf pd_2 rfl) rfl (by show 2 * 0 + _ ≤ _; exact Nat.le_of_eq rfl) (hb hby at_24) (fun _ _ => ⟨rfl, e76, (by decide : 0 + 0 ≤ _), (by decide : 0 + 0 ≤ _)⟩)
    dsimp only [Pt.U, Pt.locs, Pt.cells, Pt.slots] at X78 l78 y78 z78 st78 hQ78
    subst l78 y78 z78
    unfold Q3 at hQ78
    have k79 : ∀ t, Steps p.tables e below (T76.setTop (mkF m 24 #[.val (.int p0), .val (.long p1), .second, .val (.int (4 : Int32)), .val (.ref wREFERRAL), .val (.long (0 : Int64)), .second] [(.long p1), (.ref wREFERRAL)])) t → Steps p.tables e below (s₁.setTop (entryFrame m #[(.int p0), (.long p1)] maxLocals)) t := fun t kt => k77 t (by
      show Steps p.tables e below (T74.setTop (mkF m 16 #[.val (.int p0), .val (.long p1), .second, .val (.int (4 : Int32)), .val (.ref wREFERRAL), .unset, .unset] [(.long p1), (.int (4 : Int32))])) _
      refine st76 _ ?_
      show Steps p.tables e below (T76.setTop (mkF m 19 #[.val (.int p0), .val (.long p1), .second, .val (.int (4 : Int32)), .val (.ref wREFERRAL), .unset, .unset] [(.long (0 : Int64))])) _
      refine XS.lstore X76.here hx rfl (hb hby at_19) rfl (l' := #[.val (.int p0), .val (.long p1), .second, .val (.int (4 : Int32)), .val (.ref wREFERRAL), .val (.long (0 : Int64)), .second]) rfl ?_
      show Steps p.tables e below (T76.setTop (mkF m 21 #[.val (.int p0), .val (.long p1), .second, .val (.int (4 : Int32)), .val (.ref wREFERRAL), .val (.long (0 : Int64)), .second] [])) _
      refine XS.aload X76.here hx rfl (hb hby at_21) rfl rfl ?_
      show Steps p.tables e below (T76.setTop (mkF m 23 #[.val (.int p0), .val (.long p1), .second, .val (.int (4 : Int32)), .val (.ref wREFERRAL), .val (.long (0 : Int64)), .second] [(.ref wREFERRAL)])) _
      refine XS.lloadN X76.here hx rfl (hb hby at_23) rfl ?_
      exact kt)
    rw [((by rw [f3, if_pos (rfl : (0 : Int32) = (0 : Int32))]) : (f3 wREFERRAL p1 (0 : Int32) (0 : Int64)) = (0 : Int64))] at hQ78
    obtain ⟨rfl, N78q, e78⟩ := hQ78
    have N78 := Fr.app N76 N78q
    obtain ⟨fs, hr, hrun, hended, hW, hsame⟩ := X78.leave (v := some (.int (1 : Int32))) (fun h => by rw [Bd.returns] at h; cases h)
    refine ⟨_, _, k79 _ ?_, hrun, hended, _, _, rfl, ?_, ⟨_, rfl⟩, hW, hsame.mono (by decide) (by decide)⟩
    · show Steps p.tables e below (T76.setTop (mkF m 24 #[.val (.int p0), .val (.long p1), .second, .val (.int (4 : Int32)), .val (.ref wREFERRAL), .val (.long (0 : Int64)), .second] [(.long p1), (.ref wREFERRAL)])) _
      refine st78.trans ?_
      show Steps p.tables e below (T78.setTop (mkF m 27 #[.val (.int p0), .val (.long p1), .second, .val (.int (4 : Int32)), .val (.ref wREFERRAL), .val (.long (0 : Int64)), .second] [(.long (0 : Int64))])) _
      refine XS.lload X78.here hx rfl (hb hby at_27) rfl ?_
      show Steps p.tables e below (T78.setTop (mkF m 29 #[.val (.int p0), .val (.long p1), .second, .val (.int (4 : Int32)), .val (.ref wREFERRAL), .val (.long (0 : Int64)), .second] [(.long (0 : Int64)), (.long (0 : Int64))])) _
      refine XS.lcmp X78.here hx rfl (hb hby at_29) rfl ?_
      show Steps p.tables e below (T78.setTop (mkF m 30 #[.val (.int p0), .val (.long p1), .second, .val (.int (4 : Int32)), .val (.ref wREFERRAL), .val (.long (0 : Int64)), .second] [(.int (lcmpW (0 : Int64) (0 : Int64)))])) _
      refine XS.ifNo X78.here hx rfl (hb hby at_30) rfl ((if0 _ _).trans (teq (own_lcEt (rfl : (0 : Int64) = (0 : Int64)) : (lcmpW (0 : Int64) (0 : Int64)) = (0 : Int32))).2) ?_
      show Steps p.tables e below (T78.setTop (mkF m 33 #[.val (.int p0), .val (.long p1), .second, .val (.int (4 : Int32)), .val (.ref wREFERRAL), .val (.long (0 : Int64)), .second] [])) _
      refine XS.iconst X78.here hx rfl (hb hby at_33) ?_
      show Steps p.tables e below (T78.setTop (mkF m 34 #[.val (.int p0), .val (.long p1), .second, .val (.int (4 : Int32)), .val (.ref wREFERRAL), .val (.long (0 : Int64)), .second] [(.int (1 : Int32))])) _
      refine XS.goto X78.here hx rfl (pc0 := 34) (pc' := 38) rfl (hb hby at_34) (by decide) (by decide) ?_
      show Steps p.tables e below (T78.setTop (mkF m 38 #[.val (.int p0), .val (.long p1), .second, .val (.int (4 : Int32)), .val (.ref wREFERRAL), .val (.long (0 : Int64)), .second] [(.int (1 : Int32))])) _
      exact retN X78 hx (t := .boolean) Bd.returns (by simp) (hb hby at_38) hr
    · show Q0 Z p0 p1 wAPPROVED wVOICE_APPROVED wINVALID_CARD wREFERRAL wLOST_OR_STOLEN wCREDIT_POSTED wNETWORK_ERROR wPICK_UP wINSUFFICIENT_FUNDS wCSC_FAILED wNETWORK_UNAVAILABLE wPARTIALLY_APPROVED h0 n0 _ T78.heap _
      rw [e78]
      exact ⟨rfl, N78⟩
  · subst hv49
    obtain ⟨_, _, ⟨T80, L80, k80, n80⟩, -, X80, ⟨Lc80, hQ80, l80, y80, z80⟩, st80⟩ := Jvm.LawKit.callS X0 hx (y := (⟨"com/example/cardstand/cardstand/scenario/ResultApprovedInCentsPinLaw", "resultFor", "(I)Lcom/example/cardstand/cardstand/scenario/PaymentAppScenario$Result;"⟩ : MethodName)) hown (mvT hZ (hw _ (List.mem_of_getElem? (i := 1) rfl))) (mvT hZ (hw _ (List.mem_of_getElem? (i := 2) rfl))) (mvT hZ (hw _ (List.mem_of_getElem? (i := 3) rfl))) (mvT hZ (hw _ (List.mem_of_getElem? (i := 4) rfl))) (by decide) (backOf (W := 0) (rm1 l Z a0 hw [] (5 : Int32) wAPPROVED wVOICE_APPROVED wINVALID_CARD wREFERRAL wLOST_OR_STOLEN wCREDIT_POSTED wNETWORK_ERROR wPICK_UP wINSUFFICIENT_FUNDS wCSC_FAILED wNETWORK_UNAVAILABLE wPARTIALLY_APPROVED h0 n0 Z0 W0 ) hZ (hw _ (List.mem_of_getElem? (i := 4) rfl)) (hw _ (List.mem_of_getElem? (i := 3) rfl)) (by decide) (by decide)) (g := (mkF m 9 #[.val (.int p0), .val (.long p1), .second, .val (.int (5 : Int32)), .unset, .unset, .unset] [(.int (5 : Int32))])) rfl (by rw [hml]; rfl) (argsL := [(.int (5 : Int32))]) (rest := []) (lenOf pd_0 rfl) rfl (by show 2 * 0 + _ ≤ _; exact Nat.le_of_eq rfl) (hb hby at_9) (fun _ _ => ⟨rfl, e0, (by decide : 0 + 0 ≤ _), (by decide : 0 + 0 ≤ _)⟩)
    dsimp only [Pt.U, Pt.locs, Pt.cells, Pt.slots] at X80 l80 y80 z80 st80 hQ80
    subst l80 y80 z80
    unfold Q1 at hQ80
    have k81 : ∀ t, Steps p.tables e below (s₁.setTop (mkF m 9 #[.val (.int p0), .val (.long p1), .second, .val (.int (5 : Int32)), .unset, .unset, .unset] [(.int (5 : Int32))])) t → Steps p.tables e below (s₁.setTop (entryFrame m #[(.int p0), (.long p1)] maxLocals)) t := fun t kt => k48 t (by
      show Steps p.tables e below (s₁.setTop (mkF m 8 #[.val (.int p0), .val (.long p1), .second, .val (.int (5 : Int32)), .unset, .unset, .unset] [])) _
      refine XS.iloadN X0.here hx rfl (hb hby at_8) rfl ?_
      exact kt)
    rw [((by rw [f1, if_neg ((by decide) : ¬ ((5 : Int32) = (0 : Int32))), if_neg ((by decide) : ¬ ((5 : Int32) = (1 : Int32))), if_neg ((by decide) : ¬ ((5 : Int32) = (2 : Int32))), if_neg ((by decide) : ¬ ((5 : Int32) = (3 : Int32))), if_neg ((by decide) : ¬ ((5 : Int32) = (4 : Int32))), if_pos (rfl : (5 : Int32) = (5 : Int32))]) : (f1 (5 : Int32) wAPPROVED wVOICE_APPROVED wINVALID_CARD wREFERRAL wLOST_OR_STOLEN wCREDIT_POSTED wNETWORK_ERROR wPICK_UP wINSUFFICIENT_FUNDS wCSC_FAILED wNETWORK_UNAVAILABLE wPARTIALLY_APPROVED) = wPICK_UP)] at hQ80
    obtain ⟨rfl, N80q, e80⟩ := hQ80
    have N80 := Fr.app N0 N80q
    obtain ⟨_, _, ⟨T82, L82, k82, n82⟩, -, X82, ⟨Lc82, hQ82, l82, y82, z82⟩, st82⟩ := Jvm.LawKit.callS X80 hx (y := (⟨"com/example/cardstand/cardstand/scenario/ResultApprovedInCentsPinLaw", "expectedFor", "(IJ)J"⟩ : MethodName)) hown (mvT hZ (hw _ (List.mem_of_getElem? (i := 8) rfl))) (mvT hZ (hw _ (List.mem_of_getElem? (i := 9) rfl))) (mvT hZ (hw _ (List.mem_of_getElem? (i := 3) rfl))) (mvT hZ (hw _ (List.mem_of_getElem? (i := 10) rfl))) (by decide) (backOf (W := 0) (rm2 l Z a0 hw [] (5 : Int32) p1 h0 n0 Z0 ) hZ (hw _ (List.mem_of_getElem? (i := 10) rfl)) (hw _ (List.mem_of_getElem? (i := 3) rfl)) (by decide) (by decide)) (g := (mkF m 16 #[.val (.int p0), .val (.long p1), .second, .val (.int (5 : Int32)), .val (.ref wPICK_UP), .unset, .unset] [(.long p1), (.int (5 : Int32))])) rfl (by rw [hml]; rfl) (argsL := [(.int (5 : Int32)), (.long p1)]) (rest := []) (lenOf pd_1 rfl) rfl (by show 2 * 0 + _ ≤ _; exact Nat.le_of_eq rfl) (hb hby at_16) (fun _ _ => ⟨rfl, e80, (by decide : 0 + 0 ≤ _), (by decide : 0 + 0 ≤ _)⟩)
    dsimp only [Pt.U, Pt.locs, Pt.cells, Pt.slots] at X82 l82 y82 z82 st82 hQ82
    subst l82 y82 z82
    unfold Q2 at hQ82
    have k83 : ∀ t, Steps p.tables e below (T80.setTop (mkF m 16 #[.val (.int p0), .val (.long p1), .second, .val (.int (5 : Int32)), .val (.ref wPICK_UP), .unset, .unset] [(.long p1), (.int (5 : Int32))])) t → Steps p.tables e below (s₁.setTop (entryFrame m #[(.int p0), (.long p1)] maxLocals)) t := fun t kt => k81 t (by
      show Steps p.tables e below (s₁.setTop (mkF m 9 #[.val (.int p0), .val (.long p1), .second, .val (.int (5 : Int32)), .unset, .unset, .unset] [(.int (5 : Int32))])) _
      refine st80 _ ?_
      show Steps p.tables e below (T80.setTop (mkF m 12 #[.val (.int p0), .val (.long p1), .second, .val (.int (5 : Int32)), .unset, .unset, .unset] [(.ref wPICK_UP)])) _
      refine XS.astore X80.here hx rfl (hb hby at_12) rfl rfl (l' := #[.val (.int p0), .val (.long p1), .second, .val (.int (5 : Int32)), .val (.ref wPICK_UP), .unset, .unset]) rfl ?_
      show Steps p.tables e below (T80.setTop (mkF m 14 #[.val (.int p0), .val (.long p1), .second, .val (.int (5 : Int32)), .val (.ref wPICK_UP), .unset, .unset] [])) _
      refine XS.iloadN X80.here hx rfl (hb hby at_14) rfl ?_
      show Steps p.tables e below (T80.setTop (mkF m 15 #[.val (.int p0), .val (.long p1), .second, .val (.int (5 : Int32)), .val (.ref wPICK_UP), .unset, .unset] [(.int (5 : Int32))])) _
      refine XS.lloadN X80.here hx rfl (hb hby at_15) rfl ?_
      exact kt)
    rw [((by rw [f2, if_neg ((by decide) : ¬ ((5 : Int32) = (0 : Int32))), if_neg ((by decide) : ¬ ((5 : Int32) = (1 : Int32))), if_neg ((by decide) : ¬ ((5 : Int32) = (11 : Int32))), if_neg ((by decide) : ¬ ((5 : Int32) = (10 : Int32)))]) : (f2 (5 : Int32) p1) = (0 : Int64))] at hQ82
    obtain ⟨rfl, N82q, e82⟩ := hQ82
    have N82 := Fr.app N80 N82q
    obtain ⟨cq84, kq84, q84a, q84b, q84c⟩ := isOf hZ e82 EPICK_UP
    obtain ⟨_, _, ⟨T84, L84, k84, n84⟩, -, X84, ⟨Lc84, hQ84, l84, y84, z84⟩, st84⟩ := X82.virtualBack hx (y := (⟨"com/example/cardstand/cardstand/scenario/PaymentAppScenario$Result", "approvedInCents", "(J)J"⟩ : MethodName)) (z := (⟨"com/example/cardstand/cardstand/scenario/PaymentAppScenario$Result", "approvedInCents", "(J)J"⟩ : MethodName)) hown (mvT hZ (hw _ (List.mem_of_getElem? (i := 11) rfl))) (mvT hZ (hw _ (List.mem_of_getElem? (i := 12) rfl))) (notFace_of_selects (args := #[]) (mvT hZ (hw _ (List.mem_of_getElem? (i := 14) rfl)))) (mvT hZ (hw _ (List.mem_of_getElem? (i := 14) rfl))) (mvT hZ (hw _ (List.mem_of_getElem? (i := 13) rfl))) (by decide) (backOf (W := 0) (rm3 l Z a0 hw [] wPICK_UP p1 (0 : Int32) (0 : Int64) h0 n0 Z0 FPICK_UP_approved FPICK_UP_heldBackInCents) hZ (hw _ (List.mem_of_getElem? (i := 15) rfl)) (hw _ (List.mem_of_getElem? (i := 6) rfl)) (by decide) (by decide)) q84a q84c (g := (mkF m 24 #[.val (.int p0), .val (.long p1), .second, .val (.int (5 : Int32)), .val (.ref wPICK_UP), .val (.long (0 : Int64)), .second] [(.long p1), (.ref wPICK_UP)])) rfl (by rw [hml]; rfl) (Steps.refl _) (argsL := [(.long p1)]) (rest := []) (lenOf pd_2 rfl) rfl (by show 2 * 0 + _ ≤ _; exact Nat.le_of_eq rfl) (hb hby at_24) (fun _ _ => ⟨rfl, e82, (by decide : 0 + 0 ≤ _), (by decide : 0 + 0 ≤ _)⟩)
    dsimp only [Pt.U, Pt.locs, Pt.cells, Pt.slots] at X84 l84 y84 z84 st84 hQ84
    subst l84 y84 z84
    unfold Q3 at hQ84
    have k85 : ∀ t, Steps p.tables e below (T82.setTop (mkF m 24 #[.val (.int p0), .val (.long p1), .second, .val (.int (5 : Int32)), .val (.ref wPICK_UP), .val (.long (0 : Int64)), .second] [(.long p1), (.ref wPICK_UP)])) t → Steps p.tables e below (s₁.setTop (entryFrame m #[(.int p0), (.long p1)] maxLocals)) t := fun t kt => k83 t (by
      show Steps p.tables e below (T80.setTop (mkF m 16 #[.val (.int p0), .val (.long p1), .second, .val (.int (5 : Int32)), .val (.ref wPICK_UP), .unset, .unset] [(.long p1), (.int (5 : Int32))])) _
      refine st82 _ ?_
      show Steps p.tables e below (T82.setTop (mkF m 19 #[.val (.int p0), .val (.long p1), .second, .val (.int (5 : Int32)), .val (.ref wPICK_UP), .unset, .unset] [(.long (0 : Int64))])) _
      refine XS.lstore X82.here hx rfl (hb hby at_19) rfl (l' := #[.val (.int p0), .val (.long p1), .second, .val (.int (5 : Int32)), .val (.ref wPICK_UP), .val (.long (0 : Int64)), .second]) rfl ?_
      show Steps p.tables e below (T82.setTop (mkF m 21 #[.val (.int p0), .val (.long p1), .second, .val (.int (5 : Int32)), .val (.ref wPICK_UP), .val (.long (0 : Int64)), .second] [])) _
      refine XS.aload X82.here hx rfl (hb hby at_21) rfl rfl ?_
      show Steps p.tables e below (T82.setTop (mkF m 23 #[.val (.int p0), .val (.long p1), .second, .val (.int (5 : Int32)), .val (.ref wPICK_UP), .val (.long (0 : Int64)), .second] [(.ref wPICK_UP)])) _
      refine XS.lloadN X82.here hx rfl (hb hby at_23) rfl ?_
      exact kt)
    rw [((by rw [f3, if_pos (rfl : (0 : Int32) = (0 : Int32))]) : (f3 wPICK_UP p1 (0 : Int32) (0 : Int64)) = (0 : Int64))] at hQ84
    obtain ⟨rfl, N84q, e84⟩ := hQ84
    have N84 := Fr.app N82 N84q
    obtain ⟨fs, hr, hrun, hended, hW, hsame⟩ := X84.leave (v := some (.int (1 : Int32))) (fun h => by rw [Bd.returns] at h; cases h)
    refine ⟨_, _, k85 _ ?_, hrun, hended, _, _, rfl, ?_, ⟨_, rfl⟩, hW, hsame.mono (by decide) (by decide)⟩
    · show Steps p.tables e below (T82.setTop (mkF m 24 #[.val (.int p0), .val (.long p1), .second, .val (.int (5 : Int32)), .val (.ref wPICK_UP), .val (.long (0 : Int64)), .second] [(.long p1), (.ref wPICK_UP)])) _
      refine st84.trans ?_
      show Steps p.tables e below (T84.setTop (mkF m 27 #[.val (.int p0), .val (.long p1), .second, .val (.int (5 : Int32)), .val (.ref wPICK_UP), .val (.long (0 : Int64)), .second] [(.long (0 : Int64))])) _
      refine XS.lload X84.here hx rfl (hb hby at_27) rfl ?_
      show Steps p.tables e below (T84.setTop (mkF m 29 #[.val (.int p0), .val (.long p1), .second, .val (.int (5 : Int32)), .val (.ref wPICK_UP), .val (.long (0 : Int64)), .second] [(.long (0 : Int64)), (.long (0 : Int64))])) _
      refine XS.lcmp X84.here hx rfl (hb hby at_29) rfl ?_
      show Steps p.tables e below (T84.setTop (mkF m 30 #[.val (.int p0), .val (.long p1), .second, .val (.int (5 : Int32)), .val (.ref wPICK_UP), .val (.long (0 : Int64)), .second] [(.int (lcmpW (0 : Int64) (0 : Int64)))])) _
      refine XS.ifNo X84.here hx rfl (hb hby at_30) rfl ((if0 _ _).trans (teq (own_lcEt (rfl : (0 : Int64) = (0 : Int64)) : (lcmpW (0 : Int64) (0 : Int64)) = (0 : Int32))).2) ?_
      show Steps p.tables e below (T84.setTop (mkF m 33 #[.val (.int p0), .val (.long p1), .second, .val (.int (5 : Int32)), .val (.ref wPICK_UP), .val (.long (0 : Int64)), .second] [])) _
      refine XS.iconst X84.here hx rfl (hb hby at_33) ?_
      show Steps p.tables e below (T84.setTop (mkF m 34 #[.val (.int p0), .val (.long p1), .second, .val (.int (5 : Int32)), .val (.ref wPICK_UP), .val (.long (0 : Int64)), .second] [(.int (1 : Int32))])) _
      refine XS.goto X84.here hx rfl (pc0 := 34) (pc' := 38) rfl (hb hby at_34) (by decide) (by decide) ?_
      show Steps p.tables e below (T84.setTop (mkF m 38 #[.val (.int p0), .val (.long p1), .second, .val (.int (5 : Int32)), .val (.ref wPICK_UP), .val (.long (0 : Int64)), .second] [(.int (1 : Int32))])) _
      exact retN X84 hx (t := .boolean) Bd.returns (by simp) (hb hby at_38) hr
    · show Q0 Z p0 p1 wAPPROVED wVOICE_APPROVED wINVALID_CARD wREFERRAL wLOST_OR_STOLEN wCREDIT_POSTED wNETWORK_ERROR wPICK_UP wINSUFFICIENT_FUNDS wCSC_FAILED wNETWORK_UNAVAILABLE wPARTIALLY_APPROVED h0 n0 _ T84.heap _
      rw [e84]
      exact ⟨rfl, N84⟩
  · subst hv49
    obtain ⟨_, _, ⟨T86, L86, k86, n86⟩, -, X86, ⟨Lc86, hQ86, l86, y86, z86⟩, st86⟩ := Jvm.LawKit.callS X0 hx (y := (⟨"com/example/cardstand/cardstand/scenario/ResultApprovedInCentsPinLaw", "resultFor", "(I)Lcom/example/cardstand/cardstand/scenario/PaymentAppScenario$Result;"⟩ : MethodName)) hown (mvT hZ (hw _ (List.mem_of_getElem? (i := 1) rfl))) (mvT hZ (hw _ (List.mem_of_getElem? (i := 2) rfl))) (mvT hZ (hw _ (List.mem_of_getElem? (i := 3) rfl))) (mvT hZ (hw _ (List.mem_of_getElem? (i := 4) rfl))) (by decide) (backOf (W := 0) (rm1 l Z a0 hw [] (6 : Int32) wAPPROVED wVOICE_APPROVED wINVALID_CARD wREFERRAL wLOST_OR_STOLEN wCREDIT_POSTED wNETWORK_ERROR wPICK_UP wINSUFFICIENT_FUNDS wCSC_FAILED wNETWORK_UNAVAILABLE wPARTIALLY_APPROVED h0 n0 Z0 W0 ) hZ (hw _ (List.mem_of_getElem? (i := 4) rfl)) (hw _ (List.mem_of_getElem? (i := 3) rfl)) (by decide) (by decide)) (g := (mkF m 9 #[.val (.int p0), .val (.long p1), .second, .val (.int (6 : Int32)), .unset, .unset, .unset] [(.int (6 : Int32))])) rfl (by rw [hml]; rfl) (argsL := [(.int (6 : Int32))]) (rest := []) (lenOf pd_0 rfl) rfl (by show 2 * 0 + _ ≤ _; exact Nat.le_of_eq rfl) (hb hby at_9) (fun _ _ => ⟨rfl, e0, (by decide : 0 + 0 ≤ _), (by decide : 0 + 0 ≤ _)⟩)
    dsimp only [Pt.U, Pt.locs, Pt.cells, Pt.slots] at X86 l86 y86 z86 st86 hQ86
    subst l86 y86 z86
    unfold Q1 at hQ86
    have k87 : ∀ t, Steps p.tables e below (s₁.setTop (mkF m 9 #[.val (.int p0), .val (.long p1), .second, .val (.int (6 : Int32)), .unset, .unset, .unset] [(.int (6 : Int32))])) t → Steps p.tables e below (s₁.setTop (entryFrame m #[(.int p0), (.long p1)] maxLocals)) t := fun t kt => k48 t (by
      show Steps p.tables e below (s₁.setTop (mkF m 8 #[.val (.int p0), .val (.long p1), .second, .val (.int (6 : Int32)), .unset, .unset, .unset] [])) _
      refine XS.iloadN X0.here hx rfl (hb hby at_8) rfl ?_
      exact kt)
    rw [((by rw [f1, if_neg ((by decide) : ¬ ((6 : Int32) = (0 : Int32))), if_neg ((by decide) : ¬ ((6 : Int32) = (1 : Int32))), if_neg ((by decide) : ¬ ((6 : Int32) = (2 : Int32))), if_neg ((by decide) : ¬ ((6 : Int32) = (3 : Int32))), if_neg ((by decide) : ¬ ((6 : Int32) = (4 : Int32))), if_neg ((by decide) : ¬ ((6 : Int32) = (5 : Int32))), if_pos (rfl : (6 : Int32) = (6 : Int32))]) : (f1 (6 : Int32) wAPPROVED wVOICE_APPROVED wINVALID_CARD wREFERRAL wLOST_OR_STOLEN wCREDIT_POSTED wNETWORK_ERROR wPICK_UP wINSUFFICIENT_FUNDS wCSC_FAILED wNETWORK_UNAVAILABLE wPARTIALLY_APPROVED) = wCSC_FAILED)] at hQ86
    obtain ⟨rfl, N86q, e86⟩ := hQ86
    have N86 := Fr.app N0 N86q
    obtain ⟨_, _, ⟨T88, L88, k88, n88⟩, -, X88, ⟨Lc88, hQ88, l88, y88, z88⟩, st88⟩ := Jvm.LawKit.callS X86 hx (y := (⟨"com/example/cardstand/cardstand/scenario/ResultApprovedInCentsPinLaw", "expectedFor", "(IJ)J"⟩ : MethodName)) hown (mvT hZ (hw _ (List.mem_of_getElem? (i := 8) rfl))) (mvT hZ (hw _ (List.mem_of_getElem? (i := 9) rfl))) (mvT hZ (hw _ (List.mem_of_getElem? (i := 3) rfl))) (mvT hZ (hw _ (List.mem_of_getElem? (i := 10) rfl))) (by decide) (backOf (W := 0) (rm2 l Z a0 hw [] (6 : Int32) p1 h0 n0 Z0 ) hZ (hw _ (List.mem_of_getElem? (i := 10) rfl)) (hw _ (List.mem_of_getElem? (i := 3) rfl)) (by decide) (by decide)) (g := (mkF m 16 #[.val (.int p0), .val (.long p1), .second, .val (.int (6 : Int32)), .val (.ref wCSC_FAILED), .unset, .unset] [(.long p1), (.int (6 : Int32))])) rfl (by rw [hml]; rfl) (argsL := [(.int (6 : Int32)), (.long p1)]) (rest := []) (lenOf pd_1 rfl) rfl (by show 2 * 0 + _ ≤ _; exact Nat.le_of_eq rfl) (hb hby at_16) (fun _ _ => ⟨rfl, e86, (by decide : 0 + 0 ≤ _), (by decide : 0 + 0 ≤ _)⟩)
    dsimp only [Pt.U, Pt.locs, Pt.cells, Pt.slots] at X88 l88 y88 z88 st88 hQ88
    subst l88 y88 z88
    unfold Q2 at hQ88
    have k89 : ∀ t, Steps p.tables e below (T86.setTop (mkF m 16 #[.val (.int p0), .val (.long p1), .second, .val (.int (6 : Int32)), .val (.ref wCSC_FAILED), .unset, .unset] [(.long p1), (.int (6 : Int32))])) t → Steps p.tables e below (s₁.setTop (entryFrame m #[(.int p0), (.long p1)] maxLocals)) t := fun t kt => k87 t (by
      show Steps p.tables e below (s₁.setTop (mkF m 9 #[.val (.int p0), .val (.long p1), .second, .val (.int (6 : Int32)), .unset, .unset, .unset] [(.int (6 : Int32))])) _
      refine st86 _ ?_
      show Steps p.tables e below (T86.setTop (mkF m 12 #[.val (.int p0), .val (.long p1), .second, .val (.int (6 : Int32)), .unset, .unset, .unset] [(.ref wCSC_FAILED)])) _
      refine XS.astore X86.here hx rfl (hb hby at_12) rfl rfl (l' := #[.val (.int p0), .val (.long p1), .second, .val (.int (6 : Int32)), .val (.ref wCSC_FAILED), .unset, .unset]) rfl ?_
      show Steps p.tables e below (T86.setTop (mkF m 14 #[.val (.int p0), .val (.long p1), .second, .val (.int (6 : Int32)), .val (.ref wCSC_FAILED), .unset, .unset] [])) _
      refine XS.iloadN X86.here hx rfl (hb hby at_14) rfl ?_
      show Steps p.tables e below (T86.setTop (mkF m 15 #[.val (.int p0), .val (.long p1), .second, .val (.int (6 : Int32)), .val (.ref wCSC_FAILED), .unset, .unset] [(.int (6 : Int32))])) _
      refine XS.lloadN X86.here hx rfl (hb hby at_15) rfl ?_
      exact kt)
    rw [((by rw [f2, if_neg ((by decide) : ¬ ((6 : Int32) = (0 : Int32))), if_neg ((by decide) : ¬ ((6 : Int32) = (1 : Int32))), if_neg ((by decide) : ¬ ((6 : Int32) = (11 : Int32))), if_neg ((by decide) : ¬ ((6 : Int32) = (10 : Int32)))]) : (f2 (6 : Int32) p1) = (0 : Int64))] at hQ88
    obtain ⟨rfl, N88q, e88⟩ := hQ88
    have N88 := Fr.app N86 N88q
    obtain ⟨cq90, kq90, q90a, q90b, q90c⟩ := isOf hZ e88 ECSC_FAILED
    obtain ⟨_, _, ⟨T90, L90, k90, n90⟩, -, X90, ⟨Lc90, hQ90, l90, y90, z90⟩, st90⟩ := X88.virtualBack hx (y := (⟨"com/example/cardstand/cardstand/scenario/PaymentAppScenario$Result", "approvedInCents", "(J)J"⟩ : MethodName)) (z := (⟨"com/example/cardstand/cardstand/scenario/PaymentAppScenario$Result", "approvedInCents", "(J)J"⟩ : MethodName)) hown (mvT hZ (hw _ (List.mem_of_getElem? (i := 11) rfl))) (mvT hZ (hw _ (List.mem_of_getElem? (i := 12) rfl))) (notFace_of_selects (args := #[]) (mvT hZ (hw _ (List.mem_of_getElem? (i := 14) rfl)))) (mvT hZ (hw _ (List.mem_of_getElem? (i := 14) rfl))) (mvT hZ (hw _ (List.mem_of_getElem? (i := 13) rfl))) (by decide) (backOf (W := 0) (rm3 l Z a0 hw [] wCSC_FAILED p1 (0 : Int32) (0 : Int64) h0 n0 Z0 FCSC_FAILED_approved FCSC_FAILED_heldBackInCents) hZ (hw _ (List.mem_of_getElem? (i := 15) rfl)) (hw _ (List.mem_of_getElem? (i := 6) rfl)) (by decide) (by decide)) q90a q90c (g := (mkF m 24 #[.val (.int p0), .val (.long p1), .second, .val (.int (6 : Int32)), .val (.ref wCSC_FAILED), .val (.long (0 : Int64)), .second] [(.long p1), (.ref wCSC_FAILED)])) rfl (by rw [hml]; rfl) (Steps.refl _) (argsL := [(.long p1)]) (rest := []) (lenOf pd_2 rfl) rfl (by show 2 * 0 + _ ≤ _; exact Nat.le_of_eq rfl) (hb hby at_24) (fun _ _ => ⟨rfl, e88, (by decide : 0 + 0 ≤ _), (by decide : 0 + 0 ≤ _)⟩)
    dsimp only [Pt.U, Pt.locs, Pt.cells, Pt.slots] at X90 l90 y90 z90 st90 hQ90
    subst l90 y90 z90
    unfold Q3 at hQ90
    have k91 : ∀ t, Steps p.tables e below (T88.setTop (mkF m 24 #[.val (.int p0), .val (.long p1), .second, .val (.int (6 : Int32)), .val (.ref wCSC_FAILED), .val (.long (0 : Int64)), .second] [(.long p1), (.ref wCSC_FAILED)])) t → Steps p.tables e below (s₁.setTop (entryFrame m #[(.int p0), (.long p1)] maxLocals)) t := fun t kt => k89 t (by
      show Steps p.tables e below (T86.setTop (mkF m 16 #[.val (.int p0), .val (.long p1), .second, .val (.int (6 : Int32)), .val (.ref wCSC_FAILED), .unset, .unset] [(.long p1), (.int (6 : Int32))])) _
      refine st88 _ ?_
      show Steps p.tables e below (T88.setTop (mkF m 19 #[.val (.int p0), .val (.long p1), .second, .val (.int (6 : Int32)), .val (.ref wCSC_FAILED), .unset, .unset] [(.long (0 : Int64))])) _
      refine XS.lstore X88.here hx rfl (hb hby at_19) rfl (l' := #[.val (.int p0), .val (.long p1), .second, .val (.int (6 : Int32)), .val (.ref wCSC_FAILED), .val (.long (0 : Int64)), .second]) rfl ?_
      show Steps p.tables e below (T88.setTop (mkF m 21 #[.val (.int p0), .val (.long p1), .second, .val (.int (6 : Int32)), .val (.ref wCSC_FAILED), .val (.long (0 : Int64)), .second] [])) _
      refine XS.aload X88.here hx rfl (hb hby at_21) rfl rfl ?_
      show Steps p.tables e below (T88.setTop (mkF m 23 #[.val (.int p0), .val (.long p1), .second, .val (.int (6 : Int32)), .val (.ref wCSC_FAILED), .val (.long (0 : Int64)), .second] [(.ref wCSC_FAILED)])) _
      refine XS.lloadN X88.here hx rfl (hb hby at_23) rfl ?_
      exact kt)
    rw [((by rw [f3, if_pos (rfl : (0 : Int32) = (0 : Int32))]) : (f3 wCSC_FAILED p1 (0 : Int32) (0 : Int64)) = (0 : Int64))] at hQ90
    obtain ⟨rfl, N90q, e90⟩ := hQ90
    have N90 := Fr.app N88 N90q
    obtain ⟨fs, hr, hrun, hended, hW, hsame⟩ := X90.leave (v := some (.int (1 : Int32))) (fun h => by rw [Bd.returns] at h; cases h)
    refine ⟨_, _, k91 _ ?_, hrun, hended, _, _, rfl, ?_, ⟨_, rfl⟩, hW, hsame.mono (by decide) (by decide)⟩
    · show Steps p.tables e below (T88.setTop (mkF m 24 #[.val (.int p0), .val (.long p1), .second, .val (.int (6 : Int32)), .val (.ref wCSC_FAILED), .val (.long (0 : Int64)), .second] [(.long p1), (.ref wCSC_FAILED)])) _
      refine st90.trans ?_
      show Steps p.tables e below (T90.setTop (mkF m 27 #[.val (.int p0), .val (.long p1), .second, .val (.int (6 : Int32)), .val (.ref wCSC_FAILED), .val (.long (0 : Int64)), .second] [(.long (0 : Int64))])) _
      refine XS.lload X90.here hx rfl (hb hby at_27) rfl ?_
      show Steps p.tables e below (T90.setTop (mkF m 29 #[.val (.int p0), .val (.long p1), .second, .val (.int (6 : Int32)), .val (.ref wCSC_FAILED), .val (.long (0 : Int64)), .second] [(.long (0 : Int64)), (.long (0 : Int64))])) _
      refine XS.lcmp X90.here hx rfl (hb hby at_29) rfl ?_
      show Steps p.tables e below (T90.setTop (mkF m 30 #[.val (.int p0), .val (.long p1), .second, .val (.int (6 : Int32)), .val (.ref wCSC_FAILED), .val (.long (0 : Int64)), .second] [(.int (lcmpW (0 : Int64) (0 : Int64)))])) _
      refine XS.ifNo X90.here hx rfl (hb hby at_30) rfl ((if0 _ _).trans (teq (own_lcEt (rfl : (0 : Int64) = (0 : Int64)) : (lcmpW (0 : Int64) (0 : Int64)) = (0 : Int32))).2) ?_
      show Steps p.tables e below (T90.setTop (mkF m 33 #[.val (.int p0), .val (.long p1), .second, .val (.int (6 : Int32)), .val (.ref wCSC_FAILED), .val (.long (0 : Int64)), .second] [])) _
      refine XS.iconst X90.here hx rfl (hb hby at_33) ?_
      show Steps p.tables e below (T90.setTop (mkF m 34 #[.val (.int p0), .val (.long p1), .second, .val (.int (6 : Int32)), .val (.ref wCSC_FAILED), .val (.long (0 : Int64)), .second] [(.int (1 : Int32))])) _
      refine XS.goto X90.here hx rfl (pc0 := 34) (pc' := 38) rfl (hb hby at_34) (by decide) (by decide) ?_
      show Steps p.tables e below (T90.setTop (mkF m 38 #[.val (.int p0), .val (.long p1), .second, .val (.int (6 : Int32)), .val (.ref wCSC_FAILED), .val (.long (0 : Int64)), .second] [(.int (1 : Int32))])) _
      exact retN X90 hx (t := .boolean) Bd.returns (by simp) (hb hby at_38) hr
    · show Q0 Z p0 p1 wAPPROVED wVOICE_APPROVED wINVALID_CARD wREFERRAL wLOST_OR_STOLEN wCREDIT_POSTED wNETWORK_ERROR wPICK_UP wINSUFFICIENT_FUNDS wCSC_FAILED wNETWORK_UNAVAILABLE wPARTIALLY_APPROVED h0 n0 _ T90.heap _
      rw [e90]
      exact ⟨rfl, N90⟩
  · subst hv49
    obtain ⟨_, _, ⟨T92, L92, k92, n92⟩, -, X92, ⟨Lc92, hQ92, l92, y92, z92⟩, st92⟩ := Jvm.LawKit.callS X0 hx (y := (⟨"com/example/cardstand/cardstand/scenario/ResultApprovedInCentsPinLaw", "resultFor", "(I)Lcom/example/cardstand/cardstand/scenario/PaymentAppScenario$Result;"⟩ : MethodName)) hown (mvT hZ (hw _ (List.mem_of_getElem? (i := 1) rfl))) (mvT hZ (hw _ (List.mem_of_getElem? (i := 2) rfl))) (mvT hZ (hw _ (List.mem_of_getElem? (i := 3) rfl))) (mvT hZ (hw _ (List.mem_of_getElem? (i := 4) rfl))) (by decide) (backOf (W := 0) (rm1 l Z a0 hw [] (7 : Int32) wAPPROVED wVOICE_APPROVED wINVALID_CARD wREFERRAL wLOST_OR_STOLEN wCREDIT_POSTED wNETWORK_ERROR wPICK_UP wINSUFFICIENT_FUNDS wCSC_FAILED wNETWORK_UNAVAILABLE wPARTIALLY_APPROVED h0 n0 Z0 W0 ) hZ (hw _ (List.mem_of_getElem? (i := 4) rfl)) (hw _ (List.mem_of_getElem? (i := 3) rfl)) (by decide) (by decide)) (g := (mkF m 9 #[.val (.int p0), .val (.long p1), .second, .val (.int (7 : Int32)), .unset, .unset, .unset] [(.int (7 : Int32))])) rfl (by rw [hml]; rfl) (argsL := [(.int (7 : Int32))]) (rest := []) (lenOf pd_0 rfl) rfl (by show 2 * 0 + _ ≤ _; exact Nat.le_of_eq rfl) (hb hby at_9) (fun _ _ => ⟨rfl, e0, (by decide : 0 + 0 ≤ _), (by decide : 0 + 0 ≤ _)⟩)
    dsimp only [Pt.U, Pt.locs, Pt.cells, Pt.slots] at X92 l92 y92 z92 st92 hQ92
    subst l92 y92 z92
    unfold Q1 at hQ92
    have k93 : ∀ t, Steps p.tables e below (s₁.setTop (mkF m 9 #[.val (.int p0), .val (.long p1), .second, .val (.int (7 : Int32)), .unset, .unset, .unset] [(.int (7 : Int32))])) t → Steps p.tables e below (s₁.setTop (entryFrame m #[(.int p0), (.long p1)] maxLocals)) t := fun t kt => k48 t (by
      show Steps p.tables e below (s₁.setTop (mkF m 8 #[.val (.int p0), .val (.long p1), .second, .val (.int (7 : Int32)), .unset, .unset, .unset] [])) _
      refine XS.iloadN X0.here hx rfl (hb hby at_8) rfl ?_
      exact kt)
    rw [((by rw [f1, if_neg ((by decide) : ¬ ((7 : Int32) = (0 : Int32))), if_neg ((by decide) : ¬ ((7 : Int32) = (1 : Int32))), if_neg ((by decide) : ¬ ((7 : Int32) = (2 : Int32))), if_neg ((by decide) : ¬ ((7 : Int32) = (3 : Int32))), if_neg ((by decide) : ¬ ((7 : Int32) = (4 : Int32))), if_neg ((by decide) : ¬ ((7 : Int32) = (5 : Int32))), if_neg ((by decide) : ¬ ((7 : Int32) = (6 : Int32))), if_pos (rfl : (7 : Int32) = (7 : Int32))]) : (f1 (7 : Int32) wAPPROVED wVOICE_APPROVED wINVALID_CARD wREFERRAL wLOST_OR_STOLEN wCREDIT_POSTED wNETWORK_ERROR wPICK_UP wINSUFFICIENT_FUNDS wCSC_FAILED wNETWORK_UNAVAILABLE wPARTIALLY_APPROVED) = wINSUFFICIENT_FUNDS)] at hQ92
    obtain ⟨rfl, N92q, e92⟩ := hQ92
    have N92 := Fr.app N0 N92q
    obtain ⟨_, _, ⟨T94, L94, k94, n94⟩, -, X94, ⟨Lc94, hQ94, l94, y94, z94⟩, st94⟩ := Jvm.LawKit.callS X92 hx (y := (⟨"com/example/cardstand/cardstand/scenario/ResultApprovedInCentsPinLaw", "expectedFor", "(IJ)J"⟩ : MethodName)) hown (mvT hZ (hw _ (List.mem_of_getElem? (i := 8) rfl))) (mvT hZ (hw _ (List.mem_of_getElem? (i := 9) rfl))) (mvT hZ (hw _ (List.mem_of_getElem? (i := 3) rfl))) (mvT hZ (hw _ (List.mem_of_getElem? (i := 10) rfl))) (by decide) (backOf (W := 0) (rm2 l Z a0 hw [] (7 : Int32) p1 h0 n0 Z0 ) hZ (hw _ (List.mem_of_getElem? (i := 10) rfl)) (hw _ (List.mem_of_getElem? (i := 3) rfl)) (by decide) (by decide)) (g := (mkF m 16 #[.val (.int p0), .val (.long p1), .second, .val (.int (7 : Int32)), .val (.ref wINSUFFICIENT_FUNDS), .unset, .unset] [(.long p1), (.int (7 : Int32))])) rfl (by rw [hml]; rfl) (argsL := [(.int (7 : Int32)), (.long p1)]) (rest := []) (lenOf pd_1 rfl) rfl (by show 2 * 0 + _ ≤ _; exact Nat.le_of_eq rfl) (hb hby at_16) (fun _ _ => ⟨rfl, e92, (by decide : 0 + 0 ≤ _), (by decide : 0 + 0 ≤ _)⟩)
    dsimp only [Pt.U, Pt.locs, Pt.cells, Pt.slots] at X94 l94 y94 z94 st94 hQ94
    subst l94 y94 z94
    unfold Q2 at hQ94
    have k95 : ∀ t, Steps p.tables e below (T92.setTop (mkF m 16 #[.val (.int p0), .val (.long p1), .second, .val (.int (7 : Int32)), .val (.ref wINSUFFICIENT_FUNDS), .unset, .unset] [(.long p1), (.int (7 : Int32))])) t → Steps p.tables e below (s₁.setTop (entryFrame m #[(.int p0), (.long p1)] maxLocals)) t := fun t kt => k93 t (by
      show Steps p.tables e below (s₁.setTop (mkF m 9 #[.val (.int p0), .val (.long p1), .second, .val (.int (7 : Int32)), .unset, .unset, .unset] [(.int (7 : Int32))])) _
      refine st92 _ ?_
      show Steps p.tables e below (T92.setTop (mkF m 12 #[.val (.int p0), .val (.long p1), .second, .val (.int (7 : Int32)), .unset, .unset, .unset] [(.ref wINSUFFICIENT_FUNDS)])) _
      refine XS.astore X92.here hx rfl (hb hby at_12) rfl rfl (l' := #[.val (.int p0), .val (.long p1), .second, .val (.int (7 : Int32)), .val (.ref wINSUFFICIENT_FUNDS), .unset, .unset]) rfl ?_
      show Steps p.tables e below (T92.setTop (mkF m 14 #[.val (.int p0), .val (.long p1), .second, .val (.int (7 : Int32)), .val (.ref wINSUFFICIENT_FUNDS), .unset, .unset] [])) _
      refine XS.iloadN X92.here hx rfl (hb hby at_14) rfl ?_
      show Steps p.tables e below (T92.setTop (mkF m 15 #[.val (.int p0), .val (.long p1), .second, .val (.int (7 : Int32)), .val (.ref wINSUFFICIENT_FUNDS), .unset, .unset] [(.int (7 : Int32))])) _
      refine XS.lloadN X92.here hx rfl (hb hby at_15) rfl ?_
      exact kt)
    rw [((by rw [f2, if_neg ((by decide) : ¬ ((7 : Int32) = (0 : Int32))), if_neg ((by decide) : ¬ ((7 : Int32) = (1 : Int32))), if_neg ((by decide) : ¬ ((7 : Int32) = (11 : Int32))), if_neg ((by decide) : ¬ ((7 : Int32) = (10 : Int32)))]) : (f2 (7 : Int32) p1) = (0 : Int64))] at hQ94
    obtain ⟨rfl, N94q, e94⟩ := hQ94
    have N94 := Fr.app N92 N94q
    obtain ⟨cq96, kq96, q96a, q96b, q96c⟩ := isOf hZ e94 EINSUFFICIENT_FUNDS
    obtain ⟨_, _, ⟨T96, L96, k96, n96⟩, -, X96, ⟨Lc96, hQ96, l96, y96, z96⟩, st96⟩ := X94.virtualBack hx (y := (⟨"com/example/cardstand/cardstand/scenario/PaymentAppScenario$Result", "approvedInCents", "(J)J"⟩ : MethodName)) (z := (⟨"com/example/cardstand/cardstand/scenario/PaymentAppScenario$Result", "approvedInCents", "(J)J"⟩ : MethodName)) hown (mvT hZ (hw _ (List.mem_of_getElem? (i := 11) rfl))) (mvT hZ (hw _ (List.mem_of_getElem? (i := 12) rfl))) (notFace_of_selects (args := #[]) (mvT hZ (hw _ (List.mem_of_getElem? (i := 14) rfl)))) (mvT hZ (hw _ (List.mem_of_getElem? (i := 14) rfl))) (mvT hZ (hw _ (List.mem_of_getElem? (i := 13) rfl))) (by decide) (backOf (W := 0) (rm3 l Z a0 hw [] wINSUFFICIENT_FUNDS p1 (0 : Int32) (0 : Int64) h0 n0 Z0 FINSUFFICIENT_FUNDS_approved FINSUFFICIENT_FUNDS_heldBackInCents) hZ (hw _ (List.mem_of_getElem? (i := 15) rfl)) (hw _ (List.mem_of_getElem? (i := 6) rfl)) (by decide) (by decide)) q96a q96c (g := (mkF m 24 #[.val (.int p0), .val (.long p1), .second, .val (.int (7 : Int32)), .val (.ref wINSUFFICIENT_FUNDS), .val (.long (0 : Int64)), .second] [(.long p1), (.ref wINSUFFICIENT_FUNDS)])) rfl (by rw [hml]; rfl) (Steps.refl _) (argsL := [(.long p1)]) (rest := []) (lenOf pd_2 rfl) rfl (by show 2 * 0 + _ ≤ _; exact Nat.le_of_eq rfl) (hb hby at_24) (fun _ _ => ⟨rfl, e94, (by decide : 0 + 0 ≤ _), (by decide : 0 + 0 ≤ _)⟩)
    dsimp only [Pt.U, Pt.locs, Pt.cells, Pt.slots] at X96 l96 y96 z96 st96 hQ96
    subst l96 y96 z96
    unfold Q3 at hQ96
    have k97 : ∀ t, Steps p.tables e below (T94.setTop (mkF m 24 #[.val (.int p0), .val (.long p1), .second, .val (.int (7 : Int32)), .val (.ref wINSUFFICIENT_FUNDS), .val (.long (0 : Int64)), .second] [(.long p1), (.ref wINSUFFICIENT_FUNDS)])) t → Steps p.tables e below (s₁.setTop (entryFrame m #[(.int p0), (.long p1)] maxLocals)) t := fun t kt => k95 t (by
      show Steps p.tables e below (T92.setTop (mkF m 16 #[.val (.int p0), .val (.long p1), .second, .val (.int (7 : Int32)), .val (.ref wINSUFFICIENT_FUNDS), .unset, .unset] [(.long p1), (.int (7 : Int32))])) _
      refine st94 _ ?_
      show Steps p.tables e below (T94.setTop (mkF m 19 #[.val (.int p0), .val (.long p1), .second, .val (.int (7 : Int32)), .val (.ref wINSUFFICIENT_FUNDS), .unset, .unset] [(.long (0 : Int64))])) _
      refine XS.lstore X94.here hx rfl (hb hby at_19) rfl (l' := #[.val (.int p0), .val (.long p1), .second, .val (.int (7 : Int32)), .val (.ref wINSUFFICIENT_FUNDS), .val (.long (0 : Int64)), .second]) rfl ?_
      show Steps p.tables e below (T94.setTop (mkF m 21 #[.val (.int p0), .val (.long p1), .second, .val (.int (7 : Int32)), .val (.ref wINSUFFICIENT_FUNDS), .val (.long (0 : Int64)), .second] [])) _
      refine XS.aload X94.here hx rfl (hb hby at_21) rfl rfl ?_
      show Steps p.tables e below (T94.setTop (mkF m 23 #[.val (.int p0), .val (.long p1), .second, .val (.int (7 : Int32)), .val (.ref wINSUFFICIENT_FUNDS), .val (.long (0 : Int64)), .second] [(.ref wINSUFFICIENT_FUNDS)])) _
      refine XS.lloadN X94.here hx rfl (hb hby at_23) rfl ?_
      exact kt)
    rw [((by rw [f3, if_pos (rfl : (0 : Int32) = (0 : Int32))]) : (f3 wINSUFFICIENT_FUNDS p1 (0 : Int32) (0 : Int64)) = (0 : Int64))] at hQ96
    obtain ⟨rfl, N96q, e96⟩ := hQ96
    have N96 := Fr.app N94 N96q
    obtain ⟨fs, hr, hrun, hended, hW, hsame⟩ := X96.leave (v := some (.int (1 : Int32))) (fun h => by rw [Bd.returns] at h; cases h)
    refine ⟨_, _, k97 _ ?_, hrun, hended, _, _, rfl, ?_, ⟨_, rfl⟩, hW, hsame.mono (by decide) (by decide)⟩
    · show Steps p.tables e below (T94.setTop (mkF m 24 #[.val (.int p0), .val (.long p1), .second, .val (.int (7 : Int32)), .val (.ref wINSUFFICIENT_FUNDS), .val (.long (0 : Int64)), .second] [(.long p1), (.ref wINSUFFICIENT_FUNDS)])) _
      refine st96.trans ?_
      show Steps p.tables e below (T96.setTop (mkF m 27 #[.val (.int p0), .val (.long p1), .second, .val (.int (7 : Int32)), .val (.ref wINSUFFICIENT_FUNDS), .val (.long (0 : Int64)), .second] [(.long (0 : Int64))])) _
      refine XS.lload X96.here hx rfl (hb hby at_27) rfl ?_
      show Steps p.tables e below (T96.setTop (mkF m 29 #[.val (.int p0), .val (.long p1), .second, .val (.int (7 : Int32)), .val (.ref wINSUFFICIENT_FUNDS), .val (.long (0 : Int64)), .second] [(.long (0 : Int64)), (.long (0 : Int64))])) _
      refine XS.lcmp X96.here hx rfl (hb hby at_29) rfl ?_
      show Steps p.tables e below (T96.setTop (mkF m 30 #[.val (.int p0), .val (.long p1), .second, .val (.int (7 : Int32)), .val (.ref wINSUFFICIENT_FUNDS), .val (.long (0 : Int64)), .second] [(.int (lcmpW (0 : Int64) (0 : Int64)))])) _
      refine XS.ifNo X96.here hx rfl (hb hby at_30) rfl ((if0 _ _).trans (teq (own_lcEt (rfl : (0 : Int64) = (0 : Int64)) : (lcmpW (0 : Int64) (0 : Int64)) = (0 : Int32))).2) ?_
      show Steps p.tables e below (T96.setTop (mkF m 33 #[.val (.int p0), .val (.long p1), .second, .val (.int (7 : Int32)), .val (.ref wINSUFFICIENT_FUNDS), .val (.long (0 : Int64)), .second] [])) _
      refine XS.iconst X96.here hx rfl (hb hby at_33) ?_
      show Steps p.tables e below (T96.setTop (mkF m 34 #[.val (.int p0), .val (.long p1), .second, .val (.int (7 : Int32)), .val (.ref wINSUFFICIENT_FUNDS), .val (.long (0 : Int64)), .second] [(.int (1 : Int32))])) _
      refine XS.goto X96.here hx rfl (pc0 := 34) (pc' := 38) rfl (hb hby at_34) (by decide) (by decide) ?_
      show Steps p.tables e below (T96.setTop (mkF m 38 #[.val (.int p0), .val (.long p1), .second, .val (.int (7 : Int32)), .val (.ref wINSUFFICIENT_FUNDS), .val (.long (0 : Int64)), .second] [(.int (1 : Int32))])) _
      exact retN X96 hx (t := .boolean) Bd.returns (by simp) (hb hby at_38) hr
    · show Q0 Z p0 p1 wAPPROVED wVOICE_APPROVED wINVALID_CARD wREFERRAL wLOST_OR_STOLEN wCREDIT_POSTED wNETWORK_ERROR wPICK_UP wINSUFFICIENT_FUNDS wCSC_FAILED wNETWORK_UNAVAILABLE wPARTIALLY_APPROVED h0 n0 _ T96.heap _
      rw [e96]
      exact ⟨rfl, N96⟩
  · subst hv49
    obtain ⟨_, _, ⟨T98, L98, k98, n98⟩, -, X98, ⟨Lc98, hQ98, l98, y98, z98⟩, st98⟩ := Jvm.LawKit.callS X0 hx (y := (⟨"com/example/cardstand/cardstand/scenario/ResultApprovedInCentsPinLaw", "resultFor", "(I)Lcom/example/cardstand/cardstand/scenario/PaymentAppScenario$Result;"⟩ : MethodName)) hown (mvT hZ (hw _ (List.mem_of_getElem? (i := 1) rfl))) (mvT hZ (hw _ (List.mem_of_getElem? (i := 2) rfl))) (mvT hZ (hw _ (List.mem_of_getElem? (i := 3) rfl))) (mvT hZ (hw _ (List.mem_of_getElem? (i := 4) rfl))) (by decide) (backOf (W := 0) (rm1 l Z a0 hw [] (8 : Int32) wAPPROVED wVOICE_APPROVED wINVALID_CARD wREFERRAL wLOST_OR_STOLEN wCREDIT_POSTED wNETWORK_ERROR wPICK_UP wINSUFFICIENT_FUNDS wCSC_FAILED wNETWORK_UNAVAILABLE wPARTIALLY_APPROVED h0 n0 Z0 W0 ) hZ (hw _ (List.mem_of_getElem? (i := 4) rfl)) (hw _ (List.mem_of_getElem? (i := 3) rfl)) (by decide) (by decide)) (g := (mkF m 9 #[.val (.int p0), .val (.long p1), .second, .val (.int (8 : Int32)), .unset, .unset, .unset] [(.int (8 : Int32))])) rfl (by rw [hml]; rfl) (argsL := [(.int (8 : Int32))]) (rest := []) (lenOf pd_0 rfl) rfl (by show 2 * 0 + _ ≤ _; exact Nat.le_of_eq rfl) (hb hby at_9) (fun _ _ => ⟨rfl, e0, (by decide : 0 + 0 ≤ _), (by decide : 0 + 0 ≤ _)⟩)
    dsimp only [Pt.U, Pt.locs, Pt.cells, Pt.slots] at X98 l98 y98 z98 st98 hQ98
    subst l98 y98 z98
    unfold Q1 at hQ98
    have k99 : ∀ t, Steps p.tables e below (s₁.setTop (mkF m 9 #[.val (.int p0), .val (.long p1), .second, .val (.int (8 : Int32)), .unset, .unset, .unset] [(.int (8 : Int32))])) t → Steps p.tables e below (s₁.setTop (entryFrame m #[(.int p0), (.long p1)] maxLocals)) t := fun t kt => k48 t (by
      show Steps p.tables e below (s₁.setTop (mkF m 8 #[.val (.int p0), .val (.long p1), .second, .val (.int (8 : Int32)), .unset, .unset, .unset] [])) _
      refine XS.iloadN X0.here hx rfl (hb hby at_8) rfl ?_
      exact kt)
    rw [((by rw [f1, if_neg ((by decide) : ¬ ((8 : Int32) = (0 : Int32))), if_neg ((by decide) : ¬ ((8 : Int32) = (1 : Int32))), if_neg ((by decide) : ¬ ((8 : Int32) = (2 : Int32))), if_neg ((by decide) : ¬ ((8 : Int32) = (3 : Int32))), if_neg ((by decide) : ¬ ((8 : Int32) = (4 : Int32))), if_neg ((by decide) : ¬ ((8 : Int32) = (5 : Int32))), if_neg ((by decide) : ¬ ((8 : Int32) = (6 : Int32))), if_neg ((by decide) : ¬ ((8 : Int32) = (7 : Int32))), if_pos (rfl : (8 : Int32) = (8 : Int32))]) : (f1 (8 : Int32) wAPPROVED wVOICE_APPROVED wINVALID_CARD wREFERRAL wLOST_OR_STOLEN wCREDIT_POSTED wNETWORK_ERROR wPICK_UP wINSUFFICIENT_FUNDS wCSC_FAILED wNETWORK_UNAVAILABLE wPARTIALLY_APPROVED) = wNETWORK_UNAVAILABLE)] at hQ98
    obtain ⟨rfl, N98q, e98⟩ := hQ98
    have N98 := Fr.app N0 N98q
    obtain ⟨_, _, ⟨T100, L100, k100, n100⟩, -, X100, ⟨Lc100, hQ100, l100, y100, z100⟩, st100⟩ := Jvm.LawKit.callS X98 hx (y := (⟨"com/example/cardstand/cardstand/scenario/ResultApprovedInCentsPinLaw", "expectedFor", "(IJ)J"⟩ : MethodName)) hown (mvT hZ (hw _ (List.mem_of_getElem? (i := 8) rfl))) (mvT hZ (hw _ (List.mem_of_getElem? (i := 9) rfl))) (mvT hZ (hw _ (List.mem_of_getElem? (i := 3) rfl))) (mvT hZ (hw _ (List.mem_of_getElem? (i := 10) rfl))) (by decide) (backOf (W := 0) (rm2 l Z a0 hw [] (8 : Int32) p1 h0 n0 Z0 ) hZ (hw _ (List.mem_of_getElem? (i := 10) rfl)) (hw _ (List.mem_of_getElem? (i := 3) rfl)) (by decide) (by decide)) (g := (mkF m 16 #[.val (.int p0), .val (.long p1), .second, .val (.int (8 : Int32)), .val (.ref wNETWORK_UNAVAILABLE), .unset, .unset] [(.long p1), (.int (8 : Int32))])) rfl (by rw [hml]; rfl) (argsL := [(.int (8 : Int32)), (.long p1)]) (rest := []) (lenOf pd_1 rfl) rfl (by show 2 * 0 + _ ≤ _; exact Nat.le_of_eq rfl) (hb hby at_16) (fun _ _ => ⟨rfl, e98, (by decide : 0 + 0 ≤ _), (by decide : 0 + 0 ≤ _)⟩)
    dsimp only [Pt.U, Pt.locs, Pt.cells, Pt.slots] at X100 l100 y100 z100 st100 hQ100
    subst l100 y100 z100
    unfold Q2 at hQ100
    have k101 : ∀ t, Steps p.tables e below (T98.setTop (mkF m 16 #[.val (.int p0), .val (.long p1), .second, .val (.int (8 : Int32)), .val (.ref wNETWORK_UNAVAILABLE), .unset, .unset] [(.long p1), (.int (8 : Int32))])) t → Steps p.tables e below (s₁.setTop (entryFrame m #[(.int p0), (.long p1)] maxLocals)) t := fun t kt => k99 t (by
      show Steps p.tables e below (s₁.setTop (mkF m 9 #[.val (.int p0), .val (.long p1), .second, .val (.int (8 : Int32)), .unset, .unset, .unset] [(.int (8 : Int32))])) _
      refine st98 _ ?_
      show Steps p.tables e below (T98.setTop (mkF m 12 #[.val (.int p0), .val (.long p1), .second, .val (.int (8 : Int32)), .unset, .unset, .unset] [(.ref wNETWORK_UNAVAILABLE)])) _
      refine XS.astore X98.here hx rfl (hb hby at_12) rfl rfl (l' := #[.val (.int p0), .val (.long p1), .second, .val (.int (8 : Int32)), .val (.ref wNETWORK_UNAVAILABLE), .unset, .unset]) rfl ?_
      show Steps p.tables e below (T98.setTop (mkF m 14 #[.val (.int p0), .val (.long p1), .second, .val (.int (8 : Int32)), .val (.ref wNETWORK_UNAVAILABLE), .unset, .unset] [])) _
      refine XS.iloadN X98.here hx rfl (hb hby at_14) rfl ?_
      show Steps p.tables e below (T98.setTop (mkF m 15 #[.val (.int p0), .val (.long p1), .second, .val (.int (8 : Int32)), .val (.ref wNETWORK_UNAVAILABLE), .unset, .unset] [(.int (8 : Int32))])) _
      refine XS.lloadN X98.here hx rfl (hb hby at_15) rfl ?_
      exact kt)
    rw [((by rw [f2, if_neg ((by decide) : ¬ ((8 : Int32) = (0 : Int32))), if_neg ((by decide) : ¬ ((8 : Int32) = (1 : Int32))), if_neg ((by decide) : ¬ ((8 : Int32) = (11 : Int32))), if_neg ((by decide) : ¬ ((8 : Int32) = (10 : Int32)))]) : (f2 (8 : Int32) p1) = (0 : Int64))] at hQ100
    obtain ⟨rfl, N100q, e100⟩ := hQ100
    have N100 := Fr.app N98 N100q
    obtain ⟨cq102, kq102, q102a, q102b, q102c⟩ := isOf hZ e100 ENETWORK_UNAVAILABLE
    obtain ⟨_, _, ⟨T102, L102, k102, n102⟩, -, X102, ⟨Lc102, hQ102, l102, y102, z102⟩, st102⟩ := X100.virtualBack hx (y := (⟨"com/example/cardstand/cardstand/scenario/PaymentAppScenario$Result", "approvedInCents", "(J)J"⟩ : MethodName)) (z := (⟨"com/example/cardstand/cardstand/scenario/PaymentAppScenario$Result", "approvedInCents", "(J)J"⟩ : MethodName)) hown (mvT hZ (hw _ (List.mem_of_getElem? (i := 11) rfl))) (mvT hZ (hw _ (List.mem_of_getElem? (i := 12) rfl))) (notFace_of_selects (args := #[]) (mvT hZ (hw _ (List.mem_of_getElem? (i := 14) rfl)))) (mvT hZ (hw _ (List.mem_of_getElem? (i := 14) rfl))) (mvT hZ (hw _ (List.mem_of_getElem? (i := 13) rfl))) (by decide) (backOf (W := 0) (rm3 l Z a0 hw [] wNETWORK_UNAVAILABLE p1 (0 : Int32) (0 : Int64) h0 n0 Z0 FNETWORK_UNAVAILABLE_approved FNETWORK_UNAVAILABLE_heldBackInCents) hZ (hw _ (List.mem_of_getElem? (i := 15) rfl)) (hw _ (List.mem_of_getElem? (i := 6) rfl)) (by decide) (by decide)) q102a q102c (g := (mkF m 24 #[.val (.int p0), .val (.long p1), .second, .val (.int (8 : Int32)), .val (.ref wNETWORK_UNAVAILABLE), .val (.long (0 : Int64)), .second] [(.long p1), (.ref wNETWORK_UNAVAILABLE)])) rfl (by rw [hml]; rfl) (Steps.refl _) (argsL := [(.long p1)]) (rest := []) (lenOf pd_2 rfl) rfl (by show 2 * 0 + _ ≤ _; exact Nat.le_of_eq rfl) (hb hby at_24) (fun _ _ => ⟨rfl, e100, (by decide : 0 + 0 ≤ _), (by decide : 0 + 0 ≤ _)⟩)
    dsimp only [Pt.U, Pt.locs, Pt.cells, Pt.slots] at X102 l102 y102 z102 st102 hQ102
    subst l102 y102 z102
    unfold Q3 at hQ102
    have k103 : ∀ t, Steps p.tables e below (T100.setTop (mkF m 24 #[.val (.int p0), .val (.long p1), .second, .val (.int (8 : Int32)), .val (.ref wNETWORK_UNAVAILABLE), .val (.long (0 : Int64)), .second] [(.long p1), (.ref wNETWORK_UNAVAILABLE)])) t → Steps p.tables e below (s₁.setTop (entryFrame m #[(.int p0), (.long p1)] maxLocals)) t := fun t kt => k101 t (by
      show Steps p.tables e below (T98.setTop (mkF m 16 #[.val (.int p0), .val (.long p1), .second, .val (.int (8 : Int32)), .val (.ref wNETWORK_UNAVAILABLE), .unset, .unset] [(.long p1), (.int (8 : Int32))])) _
      refine st100 _ ?_
      show Steps p.tables e below (T100.setTop (mkF m 19 #[.val (.int p0), .val (.long p1), .second, .val (.int (8 : Int32)), .val (.ref wNETWORK_UNAVAILABLE), .unset, .unset] [(.long (0 : Int64))])) _
      refine XS.lstore X100.here hx rfl (hb hby at_19) rfl (l' := #[.val (.int p0), .val (.long p1), .second, .val (.int (8 : Int32)), .val (.ref wNETWORK_UNAVAILABLE), .val (.long (0 : Int64)), .second]) rfl ?_
      show Steps p.tables e below (T100.setTop (mkF m 21 #[.val (.int p0), .val (.long p1), .second, .val (.int (8 : Int32)), .val (.ref wNETWORK_UNAVAILABLE), .val (.long (0 : Int64)), .second] [])) _
      refine XS.aload X100.here hx rfl (hb hby at_21) rfl rfl ?_
      show Steps p.tables e below (T100.setTop (mkF m 23 #[.val (.int p0), .val (.long p1), .second, .val (.int (8 : Int32)), .val (.ref wNETWORK_UNAVAILABLE), .val (.long (0 : Int64)), .second] [(.ref wNETWORK_UNAVAILABLE)])) _
      refine XS.lloadN X100.here hx rfl (hb hby at_23) rfl ?_
      exact kt)
    rw [((by rw [f3, if_pos (rfl : (0 : Int32) = (0 : Int32))]) : (f3 wNETWORK_UNAVAILABLE p1 (0 : Int32) (0 : Int64)) = (0 : Int64))] at hQ102
    obtain ⟨rfl, N102q, e102⟩ := hQ102
    have N102 := Fr.app N100 N102q
    obtain ⟨fs, hr, hrun, hended, hW, hsame⟩ := X102.leave (v := some (.int (1 : Int32))) (fun h => by rw [Bd.returns] at h; cases h)
    refine ⟨_, _, k103 _ ?_, hrun, hended, _, _, rfl, ?_, ⟨_, rfl⟩, hW, hsame.mono (by decide) (by decide)⟩
    · show Steps p.tables e below (T100.setTop (mkF m 24 #[.val (.int p0), .val (.long p1), .second, .val (.int (8 : Int32)), .val (.ref wNETWORK_UNAVAILABLE), .val (.long (0 : Int64)), .second] [(.long p1), (.ref wNETWORK_UNAVAILABLE)])) _
      refine st102.trans ?_
      show Steps p.tables e below (T102.setTop (mkF m 27 #[.val (.int p0), .val (.long p1), .second, .val (.int (8 : Int32)), .val (.ref wNETWORK_UNAVAILABLE), .val (.long (0 : Int64)), .second] [(.long (0 : Int64))])) _
      refine XS.lload X102.here hx rfl (hb hby at_27) rfl ?_
      show Steps p.tables e below (T102.setTop (mkF m 29 #[.val (.int p0), .val (.long p1), .second, .val (.int (8 : Int32)), .val (.ref wNETWORK_UNAVAILABLE), .val (.long (0 : Int64)), .second] [(.long (0 : Int64)), (.long (0 : Int64))])) _
      refine XS.lcmp X102.here hx rfl (hb hby at_29) rfl ?_
      show Steps p.tables e below (T102.setTop (mkF m 30 #[.val (.int p0), .val (.long p1), .second, .val (.int (8 : Int32)), .val (.ref wNETWORK_UNAVAILABLE), .val (.long (0 : Int64)), .second] [(.int (lcmpW (0 : Int64) (0 : Int64)))])) _
      refine XS.ifNo X102.here hx rfl (hb hby at_30) rfl ((if0 _ _).trans (teq (own_lcEt (rfl : (0 : Int64) = (0 : Int64)) : (lcmpW (0 : Int64) (0 : Int64)) = (0 : Int32))).2) ?_
      show Steps p.tables e below (T102.setTop (mkF m 33 #[.val (.int p0), .val (.long p1), .second, .val (.int (8 : Int32)), .val (.ref wNETWORK_UNAVAILABLE), .val (.long (0 : Int64)), .second] [])) _
      refine XS.iconst X102.here hx rfl (hb hby at_33) ?_
      show Steps p.tables e below (T102.setTop (mkF m 34 #[.val (.int p0), .val (.long p1), .second, .val (.int (8 : Int32)), .val (.ref wNETWORK_UNAVAILABLE), .val (.long (0 : Int64)), .second] [(.int (1 : Int32))])) _
      refine XS.goto X102.here hx rfl (pc0 := 34) (pc' := 38) rfl (hb hby at_34) (by decide) (by decide) ?_
      show Steps p.tables e below (T102.setTop (mkF m 38 #[.val (.int p0), .val (.long p1), .second, .val (.int (8 : Int32)), .val (.ref wNETWORK_UNAVAILABLE), .val (.long (0 : Int64)), .second] [(.int (1 : Int32))])) _
      exact retN X102 hx (t := .boolean) Bd.returns (by simp) (hb hby at_38) hr
    · show Q0 Z p0 p1 wAPPROVED wVOICE_APPROVED wINVALID_CARD wREFERRAL wLOST_OR_STOLEN wCREDIT_POSTED wNETWORK_ERROR wPICK_UP wINSUFFICIENT_FUNDS wCSC_FAILED wNETWORK_UNAVAILABLE wPARTIALLY_APPROVED h0 n0 _ T102.heap _
      rw [e102]
      exact ⟨rfl, N102⟩
  · subst hv49
    obtain ⟨_, _, ⟨T104, L104, k104, n104⟩, -, X104, ⟨Lc104, hQ104, l104, y104, z104⟩, st104⟩ := Jvm.LawKit.callS X0 hx (y := (⟨"com/example/cardstand/cardstand/scenario/ResultApprovedInCentsPinLaw", "resultFor", "(I)Lcom/example/cardstand/cardstand/scenario/PaymentAppScenario$Result;"⟩ : MethodName)) hown (mvT hZ (hw _ (List.mem_of_getElem? (i := 1) rfl))) (mvT hZ (hw _ (List.mem_of_getElem? (i := 2) rfl))) (mvT hZ (hw _ (List.mem_of_getElem? (i := 3) rfl))) (mvT hZ (hw _ (List.mem_of_getElem? (i := 4) rfl))) (by decide) (backOf (W := 0) (rm1 l Z a0 hw [] (9 : Int32) wAPPROVED wVOICE_APPROVED wINVALID_CARD wREFERRAL wLOST_OR_STOLEN wCREDIT_POSTED wNETWORK_ERROR wPICK_UP wINSUFFICIENT_FUNDS wCSC_FAILED wNETWORK_UNAVAILABLE wPARTIALLY_APPROVED h0 n0 Z0 W0 ) hZ (hw _ (List.mem_of_getElem? (i := 4) rfl)) (hw _ (List.mem_of_getElem? (i := 3) rfl)) (by decide) (by decide)) (g := (mkF m 9 #[.val (.int p0), .val (.long p1), .second, .val (.int (9 : Int32)), .unset, .unset, .unset] [(.int (9 : Int32))])) rfl (by rw [hml]; rfl) (argsL := [(.int (9 : Int32))]) (rest := []) (lenOf pd_0 rfl) rfl (by show 2 * 0 + _ ≤ _; exact Nat.le_of_eq rfl) (hb hby at_9) (fun _ _ => ⟨rfl, e0, (by decide : 0 + 0 ≤ _), (by decide : 0 + 0 ≤ _)⟩)
    dsimp only [Pt.U, Pt.locs, Pt.cells, Pt.slots] at X104 l104 y104 z104 st104 hQ104
    subst l104 y104 z104
    unfold Q1 at hQ104
    have k105 : ∀ t, Steps p.tables e below (s₁.setTop (mkF m 9 #[.val (.int p0), .val (.long p1), .second, .val (.int (9 : Int32)), .unset, .unset, .unset] [(.int (9 : Int32))])) t → Steps p.tables e below (s₁.setTop (entryFrame m #[(.int p0), (.long p1)] maxLocals)) t := fun t kt => k48 t (by
      show Steps p.tables e below (s₁.setTop (mkF m 8 #[.val (.int p0), .val (.long p1), .second, .val (.int (9 : Int32)), .unset, .unset, .unset] [])) _
      refine XS.iloadN X0.here hx rfl (hb hby at_8) rfl ?_
      exact kt)
    rw [((by rw [f1, if_neg ((by decide) : ¬ ((9 : Int32) = (0 : Int32))), if_neg ((by decide) : ¬ ((9 : Int32) = (1 : Int32))), if_neg ((by decide) : ¬ ((9 : Int32) = (2 : Int32))), if_neg ((by decide) : ¬ ((9 : Int32) = (3 : Int32))), if_neg ((by decide) : ¬ ((9 : Int32) = (4 : Int32))), if_neg ((by decide) : ¬ ((9 : Int32) = (5 : Int32))), if_neg ((by decide) : ¬ ((9 : Int32) = (6 : Int32))), if_neg ((by decide) : ¬ ((9 : Int32) = (7 : Int32))), if_neg ((by decide) : ¬ ((9 : Int32) = (8 : Int32))), if_pos (rfl : (9 : Int32) = (9 : Int32))]) : (f1 (9 : Int32) wAPPROVED wVOICE_APPROVED wINVALID_CARD wREFERRAL wLOST_OR_STOLEN wCREDIT_POSTED wNETWORK_ERROR wPICK_UP wINSUFFICIENT_FUNDS wCSC_FAILED wNETWORK_UNAVAILABLE wPARTIALLY_APPROVED) = wNETWORK_ERROR)] at hQ104
    obtain ⟨rfl, N104q, e104⟩ := hQ104
    have N104 := Fr.app N0 N104q
    obtain ⟨_, _, ⟨T106, L106, k106, n106⟩, -, X106, ⟨Lc106, hQ106, l106, y106, z106⟩, st106⟩ := Jvm.LawKit.callS X104 hx (y := (⟨"com/example/cardstand/cardstand/scenario/ResultApprovedInCentsPinLaw", "expectedFor", "(IJ)J"⟩ : MethodName)) hown (mvT hZ (hw _ (List.mem_of_getElem? (i := 8) rfl))) (mvT hZ (hw _ (List.mem_of_getElem? (i := 9) rfl))) (mvT hZ (hw _ (List.mem_of_getElem? (i := 3) rfl))) (mvT hZ (hw _ (List.mem_of_getElem? (i := 10) rfl))) (by decide) (backOf (W := 0) (rm2 l Z a0 hw [] (9 : Int32) p1 h0 n0 Z0 ) hZ (hw _ (List.mem_of_getElem? (i := 10) rfl)) (hw _ (List.mem_of_getElem? (i := 3) rfl)) (by decide) (by decide)) (g := (mkF m 16 #[.val (.int p0), .val (.long p1), .second, .val (.int (9 : Int32)), .val (.ref wNETWORK_ERROR), .unset, .unset] [(.long p1), (.int (9 : Int32))])) rfl (by rw [hml]; rfl) (argsL := [(.int (9 : Int32)), (.long p1)]) (rest := []) (lenOf pd_1 rfl) rfl (by show 2 * 0 + _ ≤ _; exact Nat.le_of_eq rfl) (hb hby at_16) (fun _ _ => ⟨rfl, e104, (by decide : 0 + 0 ≤ _), (by decide : 0 + 0 ≤ _)⟩)
    dsimp only [Pt.U, Pt.locs, Pt.cells, Pt.slots] at X106 l106 y106 z106 st106 hQ106
    subst l106 y106 z106
    unfold Q2 at hQ106
    have k107 : ∀ t, Steps p.tables e below (T104.setTop (mkF m 16 #[.val (.int p0), .val (.long p1), .second, .val (.int (9 : Int32)), .val (.ref wNETWORK_ERROR), .unset, .unset] [(.long p1), (.int (9 : Int32))])) t → Steps p.tables e below (s₁.setTop (entryFrame m #[(.int p0), (.long p1)] maxLocals)) t := fun t kt => k105 t (by
      show Steps p.tables e below (s₁.setTop (mkF m 9 #[.val (.int p0), .val (.long p1), .second, .val (.int (9 : Int32)), .unset, .unset, .unset] [(.int (9 : Int32))])) _
      refine st104 _ ?_
      show Steps p.tables e below (T104.setTop (mkF m 12 #[.val (.int p0), .val (.long p1), .second, .val (.int (9 : Int32)), .unset, .unset, .unset] [(.ref wNETWORK_ERROR)])) _
      refine XS.astore X104.here hx rfl (hb hby at_12) rfl rfl (l' := #[.val (.int p0), .val (.long p1), .second, .val (.int (9 : Int32)), .val (.ref wNETWORK_ERROR), .unset, .unset]) rfl ?_
      show Steps p.tables e below (T104.setTop (mkF m 14 #[.val (.int p0), .val (.long p1), .second, .val (.int (9 : Int32)), .val (.ref wNETWORK_ERROR), .unset, .unset] [])) _
      refine XS.iloadN X104.here hx rfl (hb hby at_14) rfl ?_
      show Steps p.tables e below (T104.setTop (mkF m 15 #[.val (.int p0), .val (.long p1), .second, .val (.int (9 : Int32)), .val (.ref wNETWORK_ERROR), .unset, .unset] [(.int (9 : Int32))])) _
      refine XS.lloadN X104.here hx rfl (hb hby at_15) rfl ?_
      exact kt)
    rw [((by rw [f2, if_neg ((by decide) : ¬ ((9 : Int32) = (0 : Int32))), if_neg ((by decide) : ¬ ((9 : Int32) = (1 : Int32))), if_neg ((by decide) : ¬ ((9 : Int32) = (11 : Int32))), if_neg ((by decide) : ¬ ((9 : Int32) = (10 : Int32)))]) : (f2 (9 : Int32) p1) = (0 : Int64))] at hQ106
    obtain ⟨rfl, N106q, e106⟩ := hQ106
    have N106 := Fr.app N104 N106q
    obtain ⟨cq108, kq108, q108a, q108b, q108c⟩ := isOf hZ e106 ENETWORK_ERROR
    obtain ⟨_, _, ⟨T108, L108, k108, n108⟩, -, X108, ⟨Lc108, hQ108, l108, y108, z108⟩, st108⟩ := X106.virtualBack hx (y := (⟨"com/example/cardstand/cardstand/scenario/PaymentAppScenario$Result", "approvedInCents", "(J)J"⟩ : MethodName)) (z := (⟨"com/example/cardstand/cardstand/scenario/PaymentAppScenario$Result", "approvedInCents", "(J)J"⟩ : MethodName)) hown (mvT hZ (hw _ (List.mem_of_getElem? (i := 11) rfl))) (mvT hZ (hw _ (List.mem_of_getElem? (i := 12) rfl))) (notFace_of_selects (args := #[]) (mvT hZ (hw _ (List.mem_of_getElem? (i := 14) rfl)))) (mvT hZ (hw _ (List.mem_of_getElem? (i := 14) rfl))) (mvT hZ (hw _ (List.mem_of_getElem? (i := 13) rfl))) (by decide) (backOf (W := 0) (rm3 l Z a0 hw [] wNETWORK_ERROR p1 (0 : Int32) (0 : Int64) h0 n0 Z0 FNETWORK_ERROR_approved FNETWORK_ERROR_heldBackInCents) hZ (hw _ (List.mem_of_getElem? (i := 15) rfl)) (hw _ (List.mem_of_getElem? (i := 6) rfl)) (by decide) (by decide)) q108a q108c (g := (mkF m 24 #[.val (.int p0), .val (.long p1), .second, .val (.int (9 : Int32)), .val (.ref wNETWORK_ERROR), .val (.long (0 : Int64)), .second] [(.long p1), (.ref wNETWORK_ERROR)])) rfl (by rw [hml]; rfl) (Steps.refl _) (argsL := [(.long p1)]) (rest := []) (lenOf pd_2 rfl) rfl (by show 2 * 0 + _ ≤ _; exact Nat.le_of_eq rfl) (hb hby at_24) (fun _ _ => ⟨rfl, e106, (by decide : 0 + 0 ≤ _), (by decide : 0 + 0 ≤ _)⟩)
    dsimp only [Pt.U, Pt.locs, Pt.cells, Pt.slots] at X108 l108 y108 z108 st108 hQ108
    subst l108 y108 z108
    unfold Q3 at hQ108
    have k109 : ∀ t, Steps p.tables e below (T106.setTop (mkF m 24 #[.val (.int p0), .val (.long p1), .second, .val (.int (9 : Int32)), .val (.ref wNETWORK_ERROR), .val (.long (0 : Int64)), .second] [(.long p1), (.ref wNETWORK_ERROR)])) t → Steps p.tables e below (s₁.setTop (entryFrame m #[(.int p0), (.long p1)] maxLocals)) t := fun t kt => k107 t (by
      show Steps p.tables e below (T104.setTop (mkF m 16 #[.val (.int p0), .val (.long p1), .second, .val (.int (9 : Int32)), .val (.ref wNETWORK_ERROR), .unset, .unset] [(.long p1), (.int (9 : Int32))])) _
      refine st106 _ ?_
      show Steps p.tables e below (T106.setTop (mkF m 19 #[.val (.int p0), .val (.long p1), .second, .val (.int (9 : Int32)), .val (.ref wNETWORK_ERROR), .unset, .unset] [(.long (0 : Int64))])) _
      refine XS.lstore X106.here hx rfl (hb hby at_19) rfl (l' := #[.val (.int p0), .val (.long p1), .second, .val (.int (9 : Int32)), .val (.ref wNETWORK_ERROR), .val (.long (0 : Int64)), .second]) rfl ?_
      show Steps p.tables e below (T106.setTop (mkF m 21 #[.val (.int p0), .val (.long p1), .second, .val (.int (9 : Int32)), .val (.ref wNETWORK_ERROR), .val (.long (0 : Int64)), .second] [])) _
      refine XS.aload X106.here hx rfl (hb hby at_21) rfl rfl ?_
      show Steps p.tables e below (T106.setTop (mkF m 23 #[.val (.int p0), .val (.long p1), .second, .val (.int (9 : Int32)), .val (.ref wNETWORK_ERROR), .val (.long (0 : Int64)), .second] [(.ref wNETWORK_ERROR)])) _
      refine XS.lloadN X106.here hx rfl (hb hby at_23) rfl ?_
      exact kt)
    rw [((by rw [f3, if_pos (rfl : (0 : Int32) = (0 : Int32))]) : (f3 wNETWORK_ERROR p1 (0 : Int32) (0 : Int64)) = (0 : Int64))] at hQ108
    obtain ⟨rfl, N108q, e108⟩ := hQ108
    have N108 := Fr.app N106 N108q
    obtain ⟨fs, hr, hrun, hended, hW, hsame⟩ := X108.leave (v := some (.int (1 : Int32))) (fun h => by rw [Bd.returns] at h; cases h)
    refine ⟨_, _, k109 _ ?_, hrun, hended, _, _, rfl, ?_, ⟨_, rfl⟩, hW, hsame.mono (by decide) (by decide)⟩
    · show Steps p.tables e below (T106.setTop (mkF m 24 #[.val (.int p0), .val (.long p1), .second, .val (.int (9 : Int32)), .val (.ref wNETWORK_ERROR), .val (.long (0 : Int64)), .second] [(.long p1), (.ref wNETWORK_ERROR)])) _
      refine st108.trans ?_
      show Steps p.tables e below (T108.setTop (mkF m 27 #[.val (.int p0), .val (.long p1), .second, .val (.int (9 : Int32)), .val (.ref wNETWORK_ERROR), .val (.long (0 : Int64)), .second] [(.long (0 : Int64))])) _
      refine XS.lload X108.here hx rfl (hb hby at_27) rfl ?_
      show Steps p.tables e below (T108.setTop (mkF m 29 #[.val (.int p0), .val (.long p1), .second, .val (.int (9 : Int32)), .val (.ref wNETWORK_ERROR), .val (.long (0 : Int64)), .second] [(.long (0 : Int64)), (.long (0 : Int64))])) _
      refine XS.lcmp X108.here hx rfl (hb hby at_29) rfl ?_
      show Steps p.tables e below (T108.setTop (mkF m 30 #[.val (.int p0), .val (.long p1), .second, .val (.int (9 : Int32)), .val (.ref wNETWORK_ERROR), .val (.long (0 : Int64)), .second] [(.int (lcmpW (0 : Int64) (0 : Int64)))])) _
      refine XS.ifNo X108.here hx rfl (hb hby at_30) rfl ((if0 _ _).trans (teq (own_lcEt (rfl : (0 : Int64) = (0 : Int64)) : (lcmpW (0 : Int64) (0 : Int64)) = (0 : Int32))).2) ?_
      show Steps p.tables e below (T108.setTop (mkF m 33 #[.val (.int p0), .val (.long p1), .second, .val (.int (9 : Int32)), .val (.ref wNETWORK_ERROR), .val (.long (0 : Int64)), .second] [])) _
      refine XS.iconst X108.here hx rfl (hb hby at_33) ?_
      show Steps p.tables e below (T108.setTop (mkF m 34 #[.val (.int p0), .val (.long p1), .second, .val (.int (9 : Int32)), .val (.ref wNETWORK_ERROR), .val (.long (0 : Int64)), .second] [(.int (1 : Int32))])) _
      refine XS.goto X108.here hx rfl (pc0 := 34) (pc' := 38) rfl (hb hby at_34) (by decide) (by decide) ?_
      show Steps p.tables e below (T108.setTop (mkF m 38 #[.val (.int p0), .val (.long p1), .second, .val (.int (9 : Int32)), .val (.ref wNETWORK_ERROR), .val (.long (0 : Int64)), .second] [(.int (1 : Int32))])) _
      exact retN X108 hx (t := .boolean) Bd.returns (by simp) (hb hby at_38) hr
    · show Q0 Z p0 p1 wAPPROVED wVOICE_APPROVED wINVALID_CARD wREFERRAL wLOST_OR_STOLEN wCREDIT_POSTED wNETWORK_ERROR wPICK_UP wINSUFFICIENT_FUNDS wCSC_FAILED wNETWORK_UNAVAILABLE wPARTIALLY_APPROVED h0 n0 _ T108.heap _
      rw [e108]
      exact ⟨rfl, N108⟩
  · subst hv49
    obtain ⟨_, _, ⟨T110, L110, k110, n110⟩, -, X110, ⟨Lc110, hQ110, l110, y110, z110⟩, st110⟩ := Jvm.LawKit.callS X0 hx (y := (⟨"com/example/cardstand/cardstand/scenario/ResultApprovedInCentsPinLaw", "resultFor", "(I)Lcom/example/cardstand/cardstand/scenario/PaymentAppScenario$Result;"⟩ : MethodName)) hown (mvT hZ (hw _ (List.mem_of_getElem? (i := 1) rfl))) (mvT hZ (hw _ (List.mem_of_getElem? (i := 2) rfl))) (mvT hZ (hw _ (List.mem_of_getElem? (i := 3) rfl))) (mvT hZ (hw _ (List.mem_of_getElem? (i := 4) rfl))) (by decide) (backOf (W := 0) (rm1 l Z a0 hw [] (10 : Int32) wAPPROVED wVOICE_APPROVED wINVALID_CARD wREFERRAL wLOST_OR_STOLEN wCREDIT_POSTED wNETWORK_ERROR wPICK_UP wINSUFFICIENT_FUNDS wCSC_FAILED wNETWORK_UNAVAILABLE wPARTIALLY_APPROVED h0 n0 Z0 W0 ) hZ (hw _ (List.mem_of_getElem? (i := 4) rfl)) (hw _ (List.mem_of_getElem? (i := 3) rfl)) (by decide) (by decide)) (g := (mkF m 9 #[.val (.int p0), .val (.long p1), .second, .val (.int (10 : Int32)), .unset, .unset, .unset] [(.int (10 : Int32))])) rfl (by rw [hml]; rfl) (argsL := [(.int (10 : Int32))]) (rest := []) (lenOf pd_0 rfl) rfl (by show 2 * 0 + _ ≤ _; exact Nat.le_of_eq rfl) (hb hby at_9) (fun _ _ => ⟨rfl, e0, (by decide : 0 + 0 ≤ _), (by decide : 0 + 0 ≤ _)⟩)
    dsimp only [Pt.U, Pt.locs, Pt.cells, Pt.slots] at X110 l110 y110 z110 st110 hQ110
    subst l110 y110 z110
    unfold Q1 at hQ110
    have k111 : ∀ t, Steps p.tables e below (s₁.setTop (mkF m 9 #[.val (.int p0), .val (.long p1), .second, .val (.int (10 : Int32)), .unset, .unset, .unset] [(.int (10 : Int32))])) t → Steps p.tables e below (s₁.setTop (entryFrame m #[(.int p0), (.long p1)] maxLocals)) t := fun t kt => k48 t (by
      show Steps p.tables e below (s₁.setTop (mkF m 8 #[.val (.int p0), .val (.long p1), .second, .val (.int (10 : Int32)), .unset, .unset, .unset] [])) _
      refine XS.iloadN X0.here hx rfl (hb hby at_8) rfl ?_
      exact kt)
    rw [((by rw [f1, if_neg ((by decide) : ¬ ((10 : Int32) = (0 : Int32))), if_neg ((by decide) : ¬ ((10 : Int32) = (1 : Int32))), if_neg ((by decide) : ¬ ((10 : Int32) = (2 : Int32))), if_neg ((by decide) : ¬ ((10 : Int32) = (3 : Int32))), if_neg ((by decide) : ¬ ((10 : Int32) = (4 : Int32))), if_neg ((by decide) : ¬ ((10 : Int32) = (5 : Int32))), if_neg ((by decide) : ¬ ((10 : Int32) = (6 : Int32))), if_neg ((by decide) : ¬ ((10 : Int32) = (7 : Int32))), if_neg ((by decide) : ¬ ((10 : Int32) = (8 : Int32))), if_neg ((by decide) : ¬ ((10 : Int32) = (9 : Int32))), if_pos (rfl : (10 : Int32) = (10 : Int32))]) : (f1 (10 : Int32) wAPPROVED wVOICE_APPROVED wINVALID_CARD wREFERRAL wLOST_OR_STOLEN wCREDIT_POSTED wNETWORK_ERROR wPICK_UP wINSUFFICIENT_FUNDS wCSC_FAILED wNETWORK_UNAVAILABLE wPARTIALLY_APPROVED) = wPARTIALLY_APPROVED)] at hQ110
    obtain ⟨rfl, N110q, e110⟩ := hQ110
    have N110 := Fr.app N0 N110q
    obtain ⟨_, _, ⟨T112, L112, k112, n112⟩, -, X112, ⟨Lc112, hQ112, l112, y112, z112⟩, st112⟩ := Jvm.LawKit.callS X110 hx (y := (⟨"com/example/cardstand/cardstand/scenario/ResultApprovedInCentsPinLaw", "expectedFor", "(IJ)J"⟩ : MethodName)) hown (mvT hZ (hw _ (List.mem_of_getElem? (i := 8) rfl))) (mvT hZ (hw _ (List.mem_of_getElem? (i := 9) rfl))) (mvT hZ (hw _ (List.mem_of_getElem? (i := 3) rfl))) (mvT hZ (hw _ (List.mem_of_getElem? (i := 10) rfl))) (by decide) (backOf (W := 0) (rm2 l Z a0 hw [] (10 : Int32) p1 h0 n0 Z0 ) hZ (hw _ (List.mem_of_getElem? (i := 10) rfl)) (hw _ (List.mem_of_getElem? (i := 3) rfl)) (by decide) (by decide)) (g := (mkF m 16 #[.val (.int p0), .val (.long p1), .second, .val (.int (10 : Int32)), .val (.ref wPARTIALLY_APPROVED), .unset, .unset] [(.long p1), (.int (10 : Int32))])) rfl (by rw [hml]; rfl) (argsL := [(.int (10 : Int32)), (.long p1)]) (rest := []) (lenOf pd_1 rfl) rfl (by show 2 * 0 + _ ≤ _; exact Nat.le_of_eq rfl) (hb hby at_16) (fun _ _ => ⟨rfl, e110, (by decide : 0 + 0 ≤ _), (by decide : 0 + 0 ≤ _)⟩)
    dsimp only [Pt.U, Pt.locs, Pt.cells, Pt.slots] at X112 l112 y112 z112 st112 hQ112
    subst l112 y112 z112
    unfold Q2 at hQ112
    have k113 : ∀ t, Steps p.tables e below (T110.setTop (mkF m 16 #[.val (.int p0), .val (.long p1), .second, .val (.int (10 : Int32)), .val (.ref wPARTIALLY_APPROVED), .unset, .unset] [(.long p1), (.int (10 : Int32))])) t → Steps p.tables e below (s₁.setTop (entryFrame m #[(.int p0), (.long p1)] maxLocals)) t := fun t kt => k111 t (by
      show Steps p.tables e below (s₁.setTop (mkF m 9 #[.val (.int p0), .val (.long p1), .second, .val (.int (10 : Int32)), .unset, .unset, .unset] [(.int (10 : Int32))])) _
      refine st110 _ ?_
      show Steps p.tables e below (T110.setTop (mkF m 12 #[.val (.int p0), .val (.long p1), .second, .val (.int (10 : Int32)), .unset, .unset, .unset] [(.ref wPARTIALLY_APPROVED)])) _
      refine XS.astore X110.here hx rfl (hb hby at_12) rfl rfl (l' := #[.val (.int p0), .val (.long p1), .second, .val (.int (10 : Int32)), .val (.ref wPARTIALLY_APPROVED), .unset, .unset]) rfl ?_
      show Steps p.tables e below (T110.setTop (mkF m 14 #[.val (.int p0), .val (.long p1), .second, .val (.int (10 : Int32)), .val (.ref wPARTIALLY_APPROVED), .unset, .unset] [])) _
      refine XS.iloadN X110.here hx rfl (hb hby at_14) rfl ?_
      show Steps p.tables e below (T110.setTop (mkF m 15 #[.val (.int p0), .val (.long p1), .second, .val (.int (10 : Int32)), .val (.ref wPARTIALLY_APPROVED), .unset, .unset] [(.int (10 : Int32))])) _
      refine XS.lloadN X110.here hx rfl (hb hby at_15) rfl ?_
      exact kt)
    rw [((by rw [f2, if_neg ((by decide) : ¬ ((10 : Int32) = (0 : Int32))), if_neg ((by decide) : ¬ ((10 : Int32) = (1 : Int32))), if_neg ((by decide) : ¬ ((10 : Int32) = (11 : Int32))), if_pos (rfl : (10 : Int32) = (10 : Int32))]) : (f2 (10 : Int32) p1) = (p1 - (1000 : Int64)))] at hQ112
    obtain ⟨rfl, N112q, e112⟩ := hQ112
    have N112 := Fr.app N110 N112q
    obtain ⟨j114, hj114⟩ : ∃ z, z = (p1 - (1000 : Int64)) := ⟨_, rfl⟩
    obtain ⟨cq115, kq115, q115a, q115b, q115c⟩ := isOf hZ e112 EPARTIALLY_APPROVED
    obtain ⟨_, _, ⟨T115, L115, k115, n115⟩, -, X115, ⟨Lc115, hQ115, l115, y115, z115⟩, st115⟩ := X112.virtualBack hx (y := (⟨"com/example/cardstand/cardstand/scenario/PaymentAppScenario$Result", "approvedInCents", "(J)J"⟩ : MethodName)) (z := (⟨"com/example/cardstand/cardstand/scenario/PaymentAppScenario$Result", "approvedInCents", "(J)J"⟩ : MethodName)) hown (mvT hZ (hw _ (List.mem_of_getElem? (i := 11) rfl))) (mvT hZ (hw _ (List.mem_of_getElem? (i := 12) rfl))) (notFace_of_selects (args := #[]) (mvT hZ (hw _ (List.mem_of_getElem? (i := 14) rfl)))) (mvT hZ (hw _ (List.mem_of_getElem? (i := 14) rfl))) (mvT hZ (hw _ (List.mem_of_getElem? (i := 13) rfl))) (by decide) (backOf (W := 0) (rm3 l Z a0 hw [] wPARTIALLY_APPROVED p1 (1 : Int32) (1000 : Int64) h0 n0 Z0 FPARTIALLY_APPROVED_approved FPARTIALLY_APPROVED_heldBackInCents) hZ (hw _ (List.mem_of_getElem? (i := 15) rfl)) (hw _ (List.mem_of_getElem? (i := 6) rfl)) (by decide) (by decide)) q115a q115c (g := (mkF m 24 #[.val (.int p0), .val (.long p1), .second, .val (.int (10 : Int32)), .val (.ref wPARTIALLY_APPROVED), .val (.long j114), .second] [(.long p1), (.ref wPARTIALLY_APPROVED)])) rfl (by rw [hml]; rfl) (Steps.refl _) (argsL := [(.long p1)]) (rest := []) (lenOf pd_2 rfl) rfl (by show 2 * 0 + _ ≤ _; exact Nat.le_of_eq rfl) (hb hby at_24) (fun _ _ => ⟨rfl, e112, (by decide : 0 + 0 ≤ _), (by decide : 0 + 0 ≤ _)⟩)
    dsimp only [Pt.U, Pt.locs, Pt.cells, Pt.slots] at X115 l115 y115 z115 st115 hQ115
    subst l115 y115 z115
    unfold Q3 at hQ115
    have k116 : ∀ t, Steps p.tables e below (T112.setTop (mkF m 24 #[.val (.int p0), .val (.long p1), .second, .val (.int (10 : Int32)), .val (.ref wPARTIALLY_APPROVED), .val (.long j114), .second] [(.long p1), (.ref wPARTIALLY_APPROVED)])) t → Steps p.tables e below (s₁.setTop (entryFrame m #[(.int p0), (.long p1)] maxLocals)) t := fun t kt => k113 t (by
      show Steps p.tables e below (T110.setTop (mkF m 16 #[.val (.int p0), .val (.long p1), .second, .val (.int (10 : Int32)), .val (.ref wPARTIALLY_APPROVED), .unset, .unset] [(.long p1), (.int (10 : Int32))])) _
      refine st112 _ ?_
      rw [← hj114]
      show Steps p.tables e below (T112.setTop (mkF m 19 #[.val (.int p0), .val (.long p1), .second, .val (.int (10 : Int32)), .val (.ref wPARTIALLY_APPROVED), .unset, .unset] [(.long j114)])) _
      refine XS.lstore X112.here hx rfl (hb hby at_19) rfl (l' := #[.val (.int p0), .val (.long p1), .second, .val (.int (10 : Int32)), .val (.ref wPARTIALLY_APPROVED), .val (.long j114), .second]) rfl ?_
      show Steps p.tables e below (T112.setTop (mkF m 21 #[.val (.int p0), .val (.long p1), .second, .val (.int (10 : Int32)), .val (.ref wPARTIALLY_APPROVED), .val (.long j114), .second] [])) _
      refine XS.aload X112.here hx rfl (hb hby at_21) rfl rfl ?_
      show Steps p.tables e below (T112.setTop (mkF m 23 #[.val (.int p0), .val (.long p1), .second, .val (.int (10 : Int32)), .val (.ref wPARTIALLY_APPROVED), .val (.long j114), .second] [(.ref wPARTIALLY_APPROVED)])) _
      refine XS.lloadN X112.here hx rfl (hb hby at_23) rfl ?_
      exact kt)
    rw [((by rw [f3, if_neg ((by decide) : ¬ ((1 : Int32) = (0 : Int32)))]) : (f3 wPARTIALLY_APPROVED p1 (1 : Int32) (1000 : Int64)) = (p1 - (1000 : Int64)))] at hQ115
    obtain ⟨rfl, N115q, e115⟩ := hQ115
    have N115 := Fr.app N112 N115q
    obtain ⟨fs, hr, hrun, hended, hW, hsame⟩ := X115.leave (v := some (.int (1 : Int32))) (fun h => by rw [Bd.returns] at h; cases h)
    refine ⟨_, _, k116 _ ?_, hrun, hended, _, _, rfl, ?_, ⟨_, rfl⟩, hW, hsame.mono (by decide) (by decide)⟩
    · show Steps p.tables e below (T112.setTop (mkF m 24 #[.val (.int p0), .val (.long p1), .second, .val (.int (10 : Int32)), .val (.ref wPARTIALLY_APPROVED), .val (.long j114), .second] [(.long p1), (.ref wPARTIALLY_APPROVED)])) _
      refine st115.trans ?_
      show Steps p.tables e below (T115.setTop (mkF m 27 #[.val (.int p0), .val (.long p1), .second, .val (.int (10 : Int32)), .val (.ref wPARTIALLY_APPROVED), .val (.long j114), .second] [(.long (p1 - (1000 : Int64)))])) _
      refine XS.lload X115.here hx rfl (hb hby at_27) rfl ?_
      show Steps p.tables e below (T115.setTop (mkF m 29 #[.val (.int p0), .val (.long p1), .second, .val (.int (10 : Int32)), .val (.ref wPARTIALLY_APPROVED), .val (.long j114), .second] [(.long j114), (.long (p1 - (1000 : Int64)))])) _
      refine XS.lcmp X115.here hx rfl (hb hby at_29) rfl ?_
      show Steps p.tables e below (T115.setTop (mkF m 30 #[.val (.int p0), .val (.long p1), .second, .val (.int (10 : Int32)), .val (.ref wPARTIALLY_APPROVED), .val (.long j114), .second] [(.int (lcmpW (p1 - (1000 : Int64)) j114))])) _
      refine XS.ifNo X115.here hx rfl (hb hby at_30) rfl ((if0 _ _).trans (teq (own_lcEt ((by first | rfl | simp [hj114]) : (p1 - (1000 : Int64)) = j114) : (lcmpW (p1 - (1000 : Int64)) j114) = (0 : Int32))).2) ?_
      show Steps p.tables e below (T115.setTop (mkF m 33 #[.val (.int p0), .val (.long p1), .second, .val (.int (10 : Int32)), .val (.ref wPARTIALLY_APPROVED), .val (.long j114), .second] [])) _
      refine XS.iconst X115.here hx rfl (hb hby at_33) ?_
      show Steps p.tables e below (T115.setTop (mkF m 34 #[.val (.int p0), .val (.long p1), .second, .val (.int (10 : Int32)), .val (.ref wPARTIALLY_APPROVED), .val (.long j114), .second] [(.int (1 : Int32))])) _
      refine XS.goto X115.here hx rfl (pc0 := 34) (pc' := 38) rfl (hb hby at_34) (by decide) (by decide) ?_
      show Steps p.tables e below (T115.setTop (mkF m 38 #[.val (.int p0), .val (.long p1), .second, .val (.int (10 : Int32)), .val (.ref wPARTIALLY_APPROVED), .val (.long j114), .second] [(.int (1 : Int32))])) _
      exact retN X115 hx (t := .boolean) Bd.returns (by simp) (hb hby at_38) hr
    · show Q0 Z p0 p1 wAPPROVED wVOICE_APPROVED wINVALID_CARD wREFERRAL wLOST_OR_STOLEN wCREDIT_POSTED wNETWORK_ERROR wPICK_UP wINSUFFICIENT_FUNDS wCSC_FAILED wNETWORK_UNAVAILABLE wPARTIALLY_APPROVED h0 n0 _ T115.heap _
      rw [e115]
      exact ⟨rfl, N115⟩
  · subst hv49
    obtain ⟨_, _, ⟨T117, L117, k117, n117⟩, -, X117, ⟨Lc117, hQ117, l117, y117, z117⟩, st117⟩ := Jvm.LawKit.callS X0 hx (y := (⟨"com/example/cardstand/cardstand/scenario/ResultApprovedInCentsPinLaw", "resultFor", "(I)Lcom/example/cardstand/cardstand/scenario/PaymentAppScenario$Result;"⟩ : MethodName)) hown (mvT hZ (hw _ (List.mem_of_getElem? (i := 1) rfl))) (mvT hZ (hw _ (List.mem_of_getElem? (i := 2) rfl))) (mvT hZ (hw _ (List.mem_of_getElem? (i := 3) rfl))) (mvT hZ (hw _ (List.mem_of_getElem? (i := 4) rfl))) (by decide) (backOf (W := 0) (rm1 l Z a0 hw [] (11 : Int32) wAPPROVED wVOICE_APPROVED wINVALID_CARD wREFERRAL wLOST_OR_STOLEN wCREDIT_POSTED wNETWORK_ERROR wPICK_UP wINSUFFICIENT_FUNDS wCSC_FAILED wNETWORK_UNAVAILABLE wPARTIALLY_APPROVED h0 n0 Z0 W0 ) hZ (hw _ (List.mem_of_getElem? (i := 4) rfl)) (hw _ (List.mem_of_getElem? (i := 3) rfl)) (by decide) (by decide)) (g := (mkF m 9 #[.val (.int p0), .val (.long p1), .second, .val (.int (11 : Int32)), .unset, .unset, .unset] [(.int (11 : Int32))])) rfl (by rw [hml]; rfl) (argsL := [(.int (11 : Int32))]) (rest := []) (lenOf pd_0 rfl) rfl (by show 2 * 0 + _ ≤ _; exact Nat.le_of_eq rfl) (hb hby at_9) (fun _ _ => ⟨rfl, e0, (by decide : 0 + 0 ≤ _), (by decide : 0 + 0 ≤ _)⟩)
    dsimp only [Pt.U, Pt.locs, Pt.cells, Pt.slots] at X117 l117 y117 z117 st117 hQ117
    subst l117 y117 z117
    unfold Q1 at hQ117
    have k118 : ∀ t, Steps p.tables e below (s₁.setTop (mkF m 9 #[.val (.int p0), .val (.long p1), .second, .val (.int (11 : Int32)), .unset, .unset, .unset] [(.int (11 : Int32))])) t → Steps p.tables e below (s₁.setTop (entryFrame m #[(.int p0), (.long p1)] maxLocals)) t := fun t kt => k48 t (by
      show Steps p.tables e below (s₁.setTop (mkF m 8 #[.val (.int p0), .val (.long p1), .second, .val (.int (11 : Int32)), .unset, .unset, .unset] [])) _
      refine XS.iloadN X0.here hx rfl (hb hby at_8) rfl ?_
      exact kt)
    rw [((by rw [f1, if_neg ((by decide) : ¬ ((11 : Int32) = (0 : Int32))), if_neg ((by decide) : ¬ ((11 : Int32) = (1 : Int32))), if_neg ((by decide) : ¬ ((11 : Int32) = (2 : Int32))), if_neg ((by decide) : ¬ ((11 : Int32) = (3 : Int32))), if_neg ((by decide) : ¬ ((11 : Int32) = (4 : Int32))), if_neg ((by decide) : ¬ ((11 : Int32) = (5 : Int32))), if_neg ((by decide) : ¬ ((11 : Int32) = (6 : Int32))), if_neg ((by decide) : ¬ ((11 : Int32) = (7 : Int32))), if_neg ((by decide) : ¬ ((11 : Int32) = (8 : Int32))), if_neg ((by decide) : ¬ ((11 : Int32) = (9 : Int32))), if_neg ((by decide) : ¬ ((11 : Int32) = (10 : Int32)))]) : (f1 (11 : Int32) wAPPROVED wVOICE_APPROVED wINVALID_CARD wREFERRAL wLOST_OR_STOLEN wCREDIT_POSTED wNETWORK_ERROR wPICK_UP wINSUFFICIENT_FUNDS wCSC_FAILED wNETWORK_UNAVAILABLE wPARTIALLY_APPROVED) = wCREDIT_POSTED)] at hQ117
    obtain ⟨rfl, N117q, e117⟩ := hQ117
    have N117 := Fr.app N0 N117q
    obtain ⟨_, _, ⟨T119, L119, k119, n119⟩, -, X119, ⟨Lc119, hQ119, l119, y119, z119⟩, st119⟩ := Jvm.LawKit.callS X117 hx (y := (⟨"com/example/cardstand/cardstand/scenario/ResultApprovedInCentsPinLaw", "expectedFor", "(IJ)J"⟩ : MethodName)) hown (mvT hZ (hw _ (List.mem_of_getElem? (i := 8) rfl))) (mvT hZ (hw _ (List.mem_of_getElem? (i := 9) rfl))) (mvT hZ (hw _ (List.mem_of_getElem? (i := 3) rfl))) (mvT hZ (hw _ (List.mem_of_getElem? (i := 10) rfl))) (by decide) (backOf (W := 0) (rm2 l Z a0 hw [] (11 : Int32) p1 h0 n0 Z0 ) hZ (hw _ (List.mem_of_getElem? (i := 10) rfl)) (hw _ (List.mem_of_getElem? (i := 3) rfl)) (by decide) (by decide)) (g := (mkF m 16 #[.val (.int p0), .val (.long p1), .second, .val (.int (11 : Int32)), .val (.ref wCREDIT_POSTED), .unset, .unset] [(.long p1), (.int (11 : Int32))])) rfl (by rw [hml]; rfl) (argsL := [(.int (11 : Int32)), (.long p1)]) (rest := []) (lenOf pd_1 rfl) rfl (by show 2 * 0 + _ ≤ _; exact Nat.le_of_eq rfl) (hb hby at_16) (fun _ _ => ⟨rfl, e117, (by decide : 0 + 0 ≤ _), (by decide : 0 + 0 ≤ _)⟩)
    dsimp only [Pt.U, Pt.locs, Pt.cells, Pt.slots] at X119 l119 y119 z119 st119 hQ119
    subst l119 y119 z119
    unfold Q2 at hQ119
    have k120 : ∀ t, Steps p.tables e below (T117.setTop (mkF m 16 #[.val (.int p0), .val (.long p1), .second, .val (.int (11 : Int32)), .val (.ref wCREDIT_POSTED), .unset, .unset] [(.long p1), (.int (11 : Int32))])) t → Steps p.tables e below (s₁.setTop (entryFrame m #[(.int p0), (.long p1)] maxLocals)) t := fun t kt => k118 t (by
      show Steps p.tables e below (s₁.setTop (mkF m 9 #[.val (.int p0), .val (.long p1), .second, .val (.int (11 : Int32)), .unset, .unset, .unset] [(.int (11 : Int32))])) _
      refine st117 _ ?_
      show Steps p.tables e below (T117.setTop (mkF m 12 #[.val (.int p0), .val (.long p1), .second, .val (.int (11 : Int32)), .unset, .unset, .unset] [(.ref wCREDIT_POSTED)])) _
      refine XS.astore X117.here hx rfl (hb hby at_12) rfl rfl (l' := #[.val (.int p0), .val (.long p1), .second, .val (.int (11 : Int32)), .val (.ref wCREDIT_POSTED), .unset, .unset]) rfl ?_
      show Steps p.tables e below (T117.setTop (mkF m 14 #[.val (.int p0), .val (.long p1), .second, .val (.int (11 : Int32)), .val (.ref wCREDIT_POSTED), .unset, .unset] [])) _
      refine XS.iloadN X117.here hx rfl (hb hby at_14) rfl ?_
      show Steps p.tables e below (T117.setTop (mkF m 15 #[.val (.int p0), .val (.long p1), .second, .val (.int (11 : Int32)), .val (.ref wCREDIT_POSTED), .unset, .unset] [(.int (11 : Int32))])) _
      refine XS.lloadN X117.here hx rfl (hb hby at_15) rfl ?_
      exact kt)
    rw [((by rw [f2, if_neg ((by decide) : ¬ ((11 : Int32) = (0 : Int32))), if_neg ((by decide) : ¬ ((11 : Int32) = (1 : Int32))), if_pos (rfl : (11 : Int32) = (11 : Int32))]) : (f2 (11 : Int32) p1) = p1)] at hQ119
    obtain ⟨rfl, N119q, e119⟩ := hQ119
    have N119 := Fr.app N117 N119q
    obtain ⟨cq121, kq121, q121a, q121b, q121c⟩ := isOf hZ e119 ECREDIT_POSTED
    obtain ⟨_, _, ⟨T121, L121, k121, n121⟩, -, X121, ⟨Lc121, hQ121, l121, y121, z121⟩, st121⟩ := X119.virtualBack hx (y := (⟨"com/example/cardstand/cardstand/scenario/PaymentAppScenario$Result", "approvedInCents", "(J)J"⟩ : MethodName)) (z := (⟨"com/example/cardstand/cardstand/scenario/PaymentAppScenario$Result", "approvedInCents", "(J)J"⟩ : MethodName)) hown (mvT hZ (hw _ (List.mem_of_getElem? (i := 11) rfl))) (mvT hZ (hw _ (List.mem_of_getElem? (i := 12) rfl))) (notFace_of_selects (args := #[]) (mvT hZ (hw _ (List.mem_of_getElem? (i := 14) rfl)))) (mvT hZ (hw _ (List.mem_of_getElem? (i := 14) rfl))) (mvT hZ (hw _ (List.mem_of_getElem? (i := 13) rfl))) (by decide) (backOf (W := 0) (rm3 l Z a0 hw [] wCREDIT_POSTED p1 (1 : Int32) (0 : Int64) h0 n0 Z0 FCREDIT_POSTED_approved FCREDIT_POSTED_heldBackInCents) hZ (hw _ (List.mem_of_getElem? (i := 15) rfl)) (hw _ (List.mem_of_getElem? (i := 6) rfl)) (by decide) (by decide)) q121a q121c (g := (mkF m 24 #[.val (.int p0), .val (.long p1), .second, .val (.int (11 : Int32)), .val (.ref wCREDIT_POSTED), .val (.long p1), .second] [(.long p1), (.ref wCREDIT_POSTED)])) rfl (by rw [hml]; rfl) (Steps.refl _) (argsL := [(.long p1)]) (rest := []) (lenOf pd_2 rfl) rfl (by show 2 * 0 + _ ≤ _; exact Nat.le_of_eq rfl) (hb hby at_24) (fun _ _ => ⟨rfl, e119, (by decide : 0 + 0 ≤ _), (by decide : 0 + 0 ≤ _)⟩)
    dsimp only [Pt.U, Pt.locs, Pt.cells, Pt.slots] at X121 l121 y121 z121 st121 hQ121
    subst l121 y121 z121
    unfold Q3 at hQ121
    have k122 : ∀ t, Steps p.tables e below (T119.setTop (mkF m 24 #[.val (.int p0), .val (.long p1), .second, .val (.int (11 : Int32)), .val (.ref wCREDIT_POSTED), .val (.long p1), .second] [(.long p1), (.ref wCREDIT_POSTED)])) t → Steps p.tables e below (s₁.setTop (entryFrame m #[(.int p0), (.long p1)] maxLocals)) t := fun t kt => k120 t (by
      show Steps p.tables e below (T117.setTop (mkF m 16 #[.val (.int p0), .val (.long p1), .second, .val (.int (11 : Int32)), .val (.ref wCREDIT_POSTED), .unset, .unset] [(.long p1), (.int (11 : Int32))])) _
      refine st119 _ ?_
      show Steps p.tables e below (T119.setTop (mkF m 19 #[.val (.int p0), .val (.long p1), .second, .val (.int (11 : Int32)), .val (.ref wCREDIT_POSTED), .unset, .unset] [(.long p1)])) _
      refine XS.lstore X119.here hx rfl (hb hby at_19) rfl (l' := #[.val (.int p0), .val (.long p1), .second, .val (.int (11 : Int32)), .val (.ref wCREDIT_POSTED), .val (.long p1), .second]) rfl ?_
      show Steps p.tables e below (T119.setTop (mkF m 21 #[.val (.int p0), .val (.long p1), .second, .val (.int (11 : Int32)), .val (.ref wCREDIT_POSTED), .val (.long p1), .second] [])) _
      refine XS.aload X119.here hx rfl (hb hby at_21) rfl rfl ?_
      show Steps p.tables e below (T119.setTop (mkF m 23 #[.val (.int p0), .val (.long p1), .second, .val (.int (11 : Int32)), .val (.ref wCREDIT_POSTED), .val (.long p1), .second] [(.ref wCREDIT_POSTED)])) _
      refine XS.lloadN X119.here hx rfl (hb hby at_23) rfl ?_
      exact kt)
    rw [((by rw [f3, if_neg ((by decide) : ¬ ((1 : Int32) = (0 : Int32)))]) : (f3 wCREDIT_POSTED p1 (1 : Int32) (0 : Int64)) = (p1 - (0 : Int64)))] at hQ121
    obtain ⟨rfl, N121q, e121⟩ := hQ121
    have N121 := Fr.app N119 N121q
    obtain ⟨fs, hr, hrun, hended, hW, hsame⟩ := X121.leave (v := some (.int (1 : Int32))) (fun h => by rw [Bd.returns] at h; cases h)
    refine ⟨_, _, k122 _ ?_, hrun, hended, _, _, rfl, ?_, ⟨_, rfl⟩, hW, hsame.mono (by decide) (by decide)⟩
    · show Steps p.tables e below (T119.setTop (mkF m 24 #[.val (.int p0), .val (.long p1), .second, .val (.int (11 : Int32)), .val (.ref wCREDIT_POSTED), .val (.long p1), .second] [(.long p1), (.ref wCREDIT_POSTED)])) _
      refine st121.trans ?_
      show Steps p.tables e below (T121.setTop (mkF m 27 #[.val (.int p0), .val (.long p1), .second, .val (.int (11 : Int32)), .val (.ref wCREDIT_POSTED), .val (.long p1), .second] [(.long (p1 - (0 : Int64)))])) _
      refine XS.lload X121.here hx rfl (hb hby at_27) rfl ?_
      show Steps p.tables e below (T121.setTop (mkF m 29 #[.val (.int p0), .val (.long p1), .second, .val (.int (11 : Int32)), .val (.ref wCREDIT_POSTED), .val (.long p1), .second] [(.long p1), (.long (p1 - (0 : Int64)))])) _
      refine XS.lcmp X121.here hx rfl (hb hby at_29) rfl ?_
      show Steps p.tables e below (T121.setTop (mkF m 30 #[.val (.int p0), .val (.long p1), .second, .val (.int (11 : Int32)), .val (.ref wCREDIT_POSTED), .val (.long p1), .second] [(.int (lcmpW (p1 - (0 : Int64)) p1))])) _
      refine XS.ifNo X121.here hx rfl (hb hby at_30) rfl ((if0 _ _).trans (teq (own_lcEt ((by first | rfl | simp) : (p1 - (0 : Int64)) = p1) : (lcmpW (p1 - (0 : Int64)) p1) = (0 : Int32))).2) ?_
      show Steps p.tables e below (T121.setTop (mkF m 33 #[.val (.int p0), .val (.long p1), .second, .val (.int (11 : Int32)), .val (.ref wCREDIT_POSTED), .val (.long p1), .second] [])) _
      refine XS.iconst X121.here hx rfl (hb hby at_33) ?_
      show Steps p.tables e below (T121.setTop (mkF m 34 #[.val (.int p0), .val (.long p1), .second, .val (.int (11 : Int32)), .val (.ref wCREDIT_POSTED), .val (.long p1), .second] [(.int (1 : Int32))])) _
      refine XS.goto X121.here hx rfl (pc0 := 34) (pc' := 38) rfl (hb hby at_34) (by decide) (by decide) ?_
      show Steps p.tables e below (T121.setTop (mkF m 38 #[.val (.int p0), .val (.long p1), .second, .val (.int (11 : Int32)), .val (.ref wCREDIT_POSTED), .val (.long p1), .second] [(.int (1 : Int32))])) _
      exact retN X121 hx (t := .boolean) Bd.returns (by simp) (hb hby at_38) hr
    · show Q0 Z p0 p1 wAPPROVED wVOICE_APPROVED wINVALID_CARD wREFERRAL wLOST_OR_STOLEN wCREDIT_POSTED wNETWORK_ERROR wPICK_UP wINSUFFICIENT_FUNDS wCSC_FAILED wNETWORK_UNAVAILABLE wPARTIALLY_APPROVED h0 n0 _ T121.heap _
      rw [e121]
      exact ⟨rfl, N121⟩
set_option maxRecDepth 65536 in
set_option maxHeartbeats 40000000 in
theorem comes_1 {Post : Tables → Env → Array Value → State → Outcome → State → Prop} (hpost : ∀ tb e args s v u, (limb_1_1.after args s (.returned v) u = true ∧ limb_1_2.after args s (.returned v) u = true ∧ True) → FrameEnd s (.returned v) u (Jvm.fieldLocs frame_1_writes args s ++ Jvm.arrayLocs frame_1_arrays args s ++ Jvm.staticLocs frame_1_statics s) 0 0 → Post tb e args s (.returned v) u) :
    ArmFor flags0 classFile x code maxLocals ret World_1 tables_1 room_1 Calls_1 rest_1 Pre_1 Post := by
  intro l hfl _ _ p e ha hc hk s m args below hf hA hF happ hP
  obtain ⟨hcalls, hrest, hpre⟩ := hP
  obtain ⟨-, -, -, hnamed, -, -, -, hat⟩ := (Spec.applies_iff hf).mp happ
  obtain ⟨hg, hn⟩ := and_e (Cond.before_iff.mp (show (Jvm.Cond.and given_1 narrow_1).before args s = true from hpre))
  obtain ⟨gc, gr0⟩ := and_e hg
  obtain ⟨ga0, ga1⟩ := and_e gr0
  obtain ⟨w0, w1, rfl⟩ : ∃ w0 w1 : Value, args = #[w0, w1] := by
    have hs : args.size = 2 := by simpa [Cond.value, given_1] using gc
    obtain ⟨L⟩ := args
    match L, hs with
    | [w0, w1], _ => exact ⟨w0, w1, rfl⟩
  have hw := fun d (hd : d ∈ tables_1) => atoms_spec (ws := Jvm.Cond.code x code maxLocals ret :: tables_1) hat d (List.mem_cons_of_mem _ hd)
  have hfit : Fit s := fun {y c} hc i hi => by
    obtain ⟨ha, rfl⟩ := Array.getElem?_eq_some_iff.mp hc
    have q := List.all_eq_true.mp ((Array.all_eq_true_iff_forall_mem.mp hF) _ (Array.getElem_mem ha)) i (List.mem_range.mpr hi)
    simpa [Array.getElem?_eq_getElem hi] using q
  obtain ⟨i0, ei0⟩ := is_v ga0
  obtain rfl : w0 = (.int i0) := Option.some.inj ei0
  obtain ⟨i1, ei1⟩ := isL_v ga1
  obtain rfl : w1 = (.long i1) := Option.some.inj ei1
  obtain ⟨nr0, hn0⟩ := and_e hn
  obtain ⟨nr1, hn1⟩ := and_e hn0
  obtain ⟨nr2, hn2⟩ := and_e hn1
  obtain ⟨nr3, hn3⟩ := and_e hn2
  obtain ⟨nr4, hn4⟩ := and_e hn3
  obtain ⟨nr5, hn5⟩ := and_e hn4
  obtain ⟨nr6, hn6⟩ := and_e hn5
  obtain ⟨nr7, hn7⟩ := and_e hn6
  obtain ⟨nr8, hn8⟩ := and_e hn7
  obtain ⟨nr9, hn9⟩ := and_e hn8
  obtain ⟨nr10, hn10⟩ := and_e hn9
  obtain ⟨nr11, hn11⟩ := and_e hn10
  obtain ⟨nr12, hn12⟩ := and_e hn11
  obtain ⟨nr13, hn13⟩ := and_e hn12
  obtain ⟨nr14, hn14⟩ := and_e hn13
  obtain ⟨nr15, hn15⟩ := and_e hn14
  obtain ⟨nr16, hn16⟩ := and_e hn15
  obtain ⟨nr17, hn17⟩ := and_e hn16
  obtain ⟨nr18, hn18⟩ := and_e hn17
  obtain ⟨nr19, hn19⟩ := and_e hn18
  obtain ⟨nr20, hn20⟩ := and_e hn19
  obtain ⟨nr21, hn21⟩ := and_e hn20
  obtain ⟨nr22, hn22⟩ := and_e hn21
  obtain ⟨nr23, hn23⟩ := and_e hn22
  obtain ⟨nr24, hn24⟩ := and_e hn23
  obtain ⟨nr25, hn25⟩ := and_e hn24
  obtain ⟨nr26, hn26⟩ := and_e hn25
  obtain ⟨nr27, hn27⟩ := and_e hn26
  obtain ⟨nr28, hn28⟩ := and_e hn27
  obtain ⟨nr29, hn29⟩ := and_e hn28
  obtain ⟨nr30, hn30⟩ := and_e hn29
  obtain ⟨nr31, hn31⟩ := and_e hn30
  obtain ⟨nr32, hn32⟩ := and_e hn31
  obtain ⟨nr33, hn33⟩ := and_e hn32
  obtain ⟨nr34, nr35⟩ := and_e hn33
  obtain ⟨wAPPROVED, evwAPPROVED⟩ := exa_v nr0
  have SAPPROVED : Sta s s.heap "com/example/cardstand/cardstand/scenario/PaymentAppScenario$Result" "APPROVED" "Lcom/example/cardstand/cardstand/scenario/PaymentAppScenario$Result;" (.ref wAPPROVED) := Sta.start evwAPPROVED (Or.inr ⟨(hw _ (List.mem_of_getElem? (i := 6) rfl)), (hw _ (List.mem_of_getElem? (i := 7) rfl))⟩)
  obtain ⟨wVOICE_APPROVED, evwVOICE_APPROVED⟩ := exa_v nr3
  have SVOICE_APPROVED : Sta s s.heap "com/example/cardstand/cardstand/scenario/PaymentAppScenario$Result" "VOICE_APPROVED" "Lcom/example/cardstand/cardstand/scenario/PaymentAppScenario$Result;" (.ref wVOICE_APPROVED) := Sta.start evwVOICE_APPROVED (Or.inr ⟨(hw _ (List.mem_of_getElem? (i := 6) rfl)), (hw _ (List.mem_of_getElem? (i := 21) rfl))⟩)
  obtain ⟨wINVALID_CARD, evwINVALID_CARD⟩ := exa_v nr6
  have SINVALID_CARD : Sta s s.heap "com/example/cardstand/cardstand/scenario/PaymentAppScenario$Result" "INVALID_CARD" "Lcom/example/cardstand/cardstand/scenario/PaymentAppScenario$Result;" (.ref wINVALID_CARD) := Sta.start evwINVALID_CARD (Or.inr ⟨(hw _ (List.mem_of_getElem? (i := 6) rfl)), (hw _ (List.mem_of_getElem? (i := 23) rfl))⟩)
  obtain ⟨wREFERRAL, evwREFERRAL⟩ := exa_v nr8
  have SREFERRAL : Sta s s.heap "com/example/cardstand/cardstand/scenario/PaymentAppScenario$Result" "REFERRAL" "Lcom/example/cardstand/cardstand/scenario/PaymentAppScenario$Result;" (.ref wREFERRAL) := Sta.start evwREFERRAL (Or.inr ⟨(hw _ (List.mem_of_getElem? (i := 6) rfl)), (hw _ (List.mem_of_getElem? (i := 25) rfl))⟩)
  obtain ⟨wLOST_OR_STOLEN, evwLOST_OR_STOLEN⟩ := exa_v nr10
  have SLOST_OR_STOLEN : Sta s s.heap "com/example/cardstand/cardstand/scenario/PaymentAppScenario$Result" "LOST_OR_STOLEN" "Lcom/example/cardstand/cardstand/scenario/PaymentAppScenario$Result;" (.ref wLOST_OR_STOLEN) := Sta.start evwLOST_OR_STOLEN (Or.inr ⟨(hw _ (List.mem_of_getElem? (i := 6) rfl)), (hw _ (List.mem_of_getElem? (i := 27) rfl))⟩)
  obtain ⟨wCREDIT_POSTED, evwCREDIT_POSTED⟩ := exa_v nr12
  have SCREDIT_POSTED : Sta s s.heap "com/example/cardstand/cardstand/scenario/PaymentAppScenario$Result" "CREDIT_POSTED" "Lcom/example/cardstand/cardstand/scenario/PaymentAppScenario$Result;" (.ref wCREDIT_POSTED) := Sta.start evwCREDIT_POSTED (Or.inr ⟨(hw _ (List.mem_of_getElem? (i := 6) rfl)), (hw _ (List.mem_of_getElem? (i := 29) rfl))⟩)
  obtain ⟨wNETWORK_ERROR, evwNETWORK_ERROR⟩ := exa_v nr15
  have SNETWORK_ERROR : Sta s s.heap "com/example/cardstand/cardstand/scenario/PaymentAppScenario$Result" "NETWORK_ERROR" "Lcom/example/cardstand/cardstand/scenario/PaymentAppScenario$Result;" (.ref wNETWORK_ERROR) := Sta.start evwNETWORK_ERROR (Or.inr ⟨(hw _ (List.mem_of_getElem? (i := 6) rfl)), (hw _ (List.mem_of_getElem? (i := 31) rfl))⟩)
  obtain ⟨wPICK_UP, evwPICK_UP⟩ := exa_v nr17
  have SPICK_UP : Sta s s.heap "com/example/cardstand/cardstand/scenario/PaymentAppScenario$Result" "PICK_UP" "Lcom/example/cardstand/cardstand/scenario/PaymentAppScenario$Result;" (.ref wPICK_UP) := Sta.start evwPICK_UP (Or.inr ⟨(hw _ (List.mem_of_getElem? (i := 6) rfl)), (hw _ (List.mem_of_getElem? (i := 33) rfl))⟩)
  obtain ⟨wINSUFFICIENT_FUNDS, evwINSUFFICIENT_FUNDS⟩ := exa_v nr19
  have SINSUFFICIENT_FUNDS : Sta s s.heap "com/example/cardstand/cardstand/scenario/PaymentAppScenario$Result" "INSUFFICIENT_FUNDS" "Lcom/example/cardstand/cardstand/scenario/PaymentAppScenario$Result;" (.ref wINSUFFICIENT_FUNDS) := Sta.start evwINSUFFICIENT_FUNDS (Or.inr ⟨(hw _ (List.mem_of_getElem? (i := 6) rfl)), (hw _ (List.mem_of_getElem? (i := 35) rfl))⟩)
  obtain ⟨wCSC_FAILED, evwCSC_FAILED⟩ := exa_v nr21
  have SCSC_FAILED : Sta s s.heap "com/example/cardstand/cardstand/scenario/PaymentAppScenario$Result" "CSC_FAILED" "Lcom/example/cardstand/cardstand/scenario/PaymentAppScenario$Result;" (.ref wCSC_FAILED) := Sta.start evwCSC_FAILED (Or.inr ⟨(hw _ (List.mem_of_getElem? (i := 6) rfl)), (hw _ (List.mem_of_getElem? (i := 37) rfl))⟩)
  obtain ⟨wNETWORK_UNAVAILABLE, evwNETWORK_UNAVAILABLE⟩ := exa_v nr23
  have SNETWORK_UNAVAILABLE : Sta s s.heap "com/example/cardstand/cardstand/scenario/PaymentAppScenario$Result" "NETWORK_UNAVAILABLE" "Lcom/example/cardstand/cardstand/scenario/PaymentAppScenario$Result;" (.ref wNETWORK_UNAVAILABLE) := Sta.start evwNETWORK_UNAVAILABLE (Or.inr ⟨(hw _ (List.mem_of_getElem? (i := 6) rfl)), (hw _ (List.mem_of_getElem? (i := 39) rfl))⟩)
  obtain ⟨wPARTIALLY_APPROVED, evwPARTIALLY_APPROVED⟩ := exa_v nr25
  have SPARTIALLY_APPROVED : Sta s s.heap "com/example/cardstand/cardstand/scenario/PaymentAppScenario$Result" "PARTIALLY_APPROVED" "Lcom/example/cardstand/cardstand/scenario/PaymentAppScenario$Result;" (.ref wPARTIALLY_APPROVED) := Sta.start evwPARTIALLY_APPROVED (Or.inr ⟨(hw _ (List.mem_of_getElem? (i := 6) rfl)), (hw _ (List.mem_of_getElem? (i := 41) rfl))⟩)
  have EAPPROVED : Exa s s.heap wAPPROVED "com/example/cardstand/cardstand/scenario/PaymentAppScenario$Result" := Exa.start evwAPPROVED nr0
  have FAPPROVED_approved : Fld s s.heap wAPPROVED "com/example/cardstand/cardstand/scenario/PaymentAppScenario$Result" "approved" "Z" (.int (1 : Int32)) := own_fldI evwAPPROVED nr1
  have FAPPROVED_heldBackInCents : Fld s s.heap wAPPROVED "com/example/cardstand/cardstand/scenario/PaymentAppScenario$Result" "heldBackInCents" "J" (.long (0 : Int64)) := own_fldJ evwAPPROVED nr2
  have EVOICE_APPROVED : Exa s s.heap wVOICE_APPROVED "com/example/cardstand/cardstand/scenario/PaymentAppScenario$Result" := Exa.start evwVOICE_APPROVED nr3
  have FVOICE_APPROVED_approved : Fld s s.heap wVOICE_APPROVED "com/example/cardstand/cardstand/scenario/PaymentAppScenario$Result" "approved" "Z" (.int (1 : Int32)) := own_fldI evwVOICE_APPROVED nr4
  have FVOICE_APPROVED_heldBackInCents : Fld s s.heap wVOICE_APPROVED "com/example/cardstand/cardstand/scenario/PaymentAppScenario$Result" "heldBackInCents" "J" (.long (0 : Int64)) := own_fldJ evwVOICE_APPROVED nr5
  have EINVALID_CARD : Exa s s.heap wINVALID_CARD "com/example/cardstand/cardstand/scenario/PaymentAppScenario$Result" := Exa.start evwINVALID_CARD nr6
  have FINVALID_CARD_approved : Fld s s.heap wINVALID_CARD "com/example/cardstand/cardstand/scenario/PaymentAppScenario$Result" "approved" "Z" (.int (0 : Int32)) := own_fldI evwINVALID_CARD nr7
  have EREFERRAL : Exa s s.heap wREFERRAL "com/example/cardstand/cardstand/scenario/PaymentAppScenario$Result" := Exa.start evwREFERRAL nr8
  have FREFERRAL_approved : Fld s s.heap wREFERRAL "com/example/cardstand/cardstand/scenario/PaymentAppScenario$Result" "approved" "Z" (.int (0 : Int32)) := own_fldI evwREFERRAL nr9
  have ELOST_OR_STOLEN : Exa s s.heap wLOST_OR_STOLEN "com/example/cardstand/cardstand/scenario/PaymentAppScenario$Result" := Exa.start evwLOST_OR_STOLEN nr10
  have FLOST_OR_STOLEN_approved : Fld s s.heap wLOST_OR_STOLEN "com/example/cardstand/cardstand/scenario/PaymentAppScenario$Result" "approved" "Z" (.int (0 : Int32)) := own_fldI evwLOST_OR_STOLEN nr11
  have ECREDIT_POSTED : Exa s s.heap wCREDIT_POSTED "com/example/cardstand/cardstand/scenario/PaymentAppScenario$Result" := Exa.start evwCREDIT_POSTED nr12
  have FCREDIT_POSTED_approved : Fld s s.heap wCREDIT_POSTED "com/example/cardstand/cardstand/scenario/PaymentAppScenario$Result" "approved" "Z" (.int (1 : Int32)) := own_fldI evwCREDIT_POSTED nr13
  have FCREDIT_POSTED_heldBackInCents : Fld s s.heap wCREDIT_POSTED "com/example/cardstand/cardstand/scenario/PaymentAppScenario$Result" "heldBackInCents" "J" (.long (0 : Int64)) := own_fldJ evwCREDIT_POSTED nr14
  have ENETWORK_ERROR : Exa s s.heap wNETWORK_ERROR "com/example/cardstand/cardstand/scenario/PaymentAppScenario$Result" := Exa.start evwNETWORK_ERROR nr15
  have FNETWORK_ERROR_approved : Fld s s.heap wNETWORK_ERROR "com/example/cardstand/cardstand/scenario/PaymentAppScenario$Result" "approved" "Z" (.int (0 : Int32)) := own_fldI evwNETWORK_ERROR nr16
  have EPICK_UP : Exa s s.heap wPICK_UP "com/example/cardstand/cardstand/scenario/PaymentAppScenario$Result" := Exa.start evwPICK_UP nr17
  have FPICK_UP_approved : Fld s s.heap wPICK_UP "com/example/cardstand/cardstand/scenario/PaymentAppScenario$Result" "approved" "Z" (.int (0 : Int32)) := own_fldI evwPICK_UP nr18
  have EINSUFFICIENT_FUNDS : Exa s s.heap wINSUFFICIENT_FUNDS "com/example/cardstand/cardstand/scenario/PaymentAppScenario$Result" := Exa.start evwINSUFFICIENT_FUNDS nr19
  have FINSUFFICIENT_FUNDS_approved : Fld s s.heap wINSUFFICIENT_FUNDS "com/example/cardstand/cardstand/scenario/PaymentAppScenario$Result" "approved" "Z" (.int (0 : Int32)) := own_fldI evwINSUFFICIENT_FUNDS nr20
  have ECSC_FAILED : Exa s s.heap wCSC_FAILED "com/example/cardstand/cardstand/scenario/PaymentAppScenario$Result" := Exa.start evwCSC_FAILED nr21
  have FCSC_FAILED_approved : Fld s s.heap wCSC_FAILED "com/example/cardstand/cardstand/scenario/PaymentAppScenario$Result" "approved" "Z" (.int (0 : Int32)) := own_fldI evwCSC_FAILED nr22
  have ENETWORK_UNAVAILABLE : Exa s s.heap wNETWORK_UNAVAILABLE "com/example/cardstand/cardstand/scenario/PaymentAppScenario$Result" := Exa.start evwNETWORK_UNAVAILABLE nr23
  have FNETWORK_UNAVAILABLE_approved : Fld s s.heap wNETWORK_UNAVAILABLE "com/example/cardstand/cardstand/scenario/PaymentAppScenario$Result" "approved" "Z" (.int (0 : Int32)) := own_fldI evwNETWORK_UNAVAILABLE nr24
  have EPARTIALLY_APPROVED : Exa s s.heap wPARTIALLY_APPROVED "com/example/cardstand/cardstand/scenario/PaymentAppScenario$Result" := Exa.start evwPARTIALLY_APPROVED nr25
  have FPARTIALLY_APPROVED_approved : Fld s s.heap wPARTIALLY_APPROVED "com/example/cardstand/cardstand/scenario/PaymentAppScenario$Result" "approved" "Z" (.int (1 : Int32)) := own_fldI evwPARTIALLY_APPROVED nr26
  have FPARTIALLY_APPROVED_heldBackInCents : Fld s s.heap wPARTIALLY_APPROVED "com/example/cardstand/cardstand/scenario/PaymentAppScenario$Result" "heldBackInCents" "J" (.long (1000 : Int64)) := own_fldJ evwPARTIALLY_APPROVED nr27
  have FINVALID_CARD_heldBackInCents : Fld s s.heap wINVALID_CARD "com/example/cardstand/cardstand/scenario/PaymentAppScenario$Result" "heldBackInCents" "J" (.long (0 : Int64)) := own_fldJ evwINVALID_CARD nr28
  have FREFERRAL_heldBackInCents : Fld s s.heap wREFERRAL "com/example/cardstand/cardstand/scenario/PaymentAppScenario$Result" "heldBackInCents" "J" (.long (0 : Int64)) := own_fldJ evwREFERRAL nr29
  have FLOST_OR_STOLEN_heldBackInCents : Fld s s.heap wLOST_OR_STOLEN "com/example/cardstand/cardstand/scenario/PaymentAppScenario$Result" "heldBackInCents" "J" (.long (0 : Int64)) := own_fldJ evwLOST_OR_STOLEN nr30
  have FNETWORK_ERROR_heldBackInCents : Fld s s.heap wNETWORK_ERROR "com/example/cardstand/cardstand/scenario/PaymentAppScenario$Result" "heldBackInCents" "J" (.long (0 : Int64)) := own_fldJ evwNETWORK_ERROR nr31
  have FPICK_UP_heldBackInCents : Fld s s.heap wPICK_UP "com/example/cardstand/cardstand/scenario/PaymentAppScenario$Result" "heldBackInCents" "J" (.long (0 : Int64)) := own_fldJ evwPICK_UP nr32
  have FINSUFFICIENT_FUNDS_heldBackInCents : Fld s s.heap wINSUFFICIENT_FUNDS "com/example/cardstand/cardstand/scenario/PaymentAppScenario$Result" "heldBackInCents" "J" (.long (0 : Int64)) := own_fldJ evwINSUFFICIENT_FUNDS nr33
  have FCSC_FAILED_heldBackInCents : Fld s s.heap wCSC_FAILED "com/example/cardstand/cardstand/scenario/PaymentAppScenario$Result" "heldBackInCents" "J" (.long (0 : Int64)) := own_fldJ evwCSC_FAILED nr34
  have FNETWORK_UNAVAILABLE_heldBackInCents : Fld s s.heap wNETWORK_UNAVAILABLE "com/example/cardstand/cardstand/scenario/PaymentAppScenario$Result" "heldBackInCents" "J" (.long (0 : Int64)) := own_fldJ evwNETWORK_UNAVAILABLE nr35
  obtain ⟨n, o, h1, h2, h3, _, L, rfl, ⟨rfl, N⟩, hq⟩ := rm0 l s _ hw tables_1 i0 i1 wAPPROVED wVOICE_APPROVED wINVALID_CARD wREFERRAL wLOST_OR_STOLEN wCREDIT_POSTED wNETWORK_ERROR wPICK_UP wINSUFFICIENT_FUNDS wCSC_FAILED wNETWORK_UNAVAILABLE wPARTIALLY_APPROVED s.heap s.heap.size (Nat.le_refl _) ⟨SAPPROVED, EAPPROVED, FAPPROVED_approved, FAPPROVED_heldBackInCents, SVOICE_APPROVED, EVOICE_APPROVED, FVOICE_APPROVED_approved, FVOICE_APPROVED_heldBackInCents, SINVALID_CARD, EINVALID_CARD, FINVALID_CARD_approved, SREFERRAL, EREFERRAL, FREFERRAL_approved, SLOST_OR_STOLEN, ELOST_OR_STOLEN, FLOST_OR_STOLEN_approved, SCREDIT_POSTED, ECREDIT_POSTED, FCREDIT_POSTED_approved, FCREDIT_POSTED_heldBackInCents, SNETWORK_ERROR, ENETWORK_ERROR, FNETWORK_ERROR_approved, SPICK_UP, EPICK_UP, FPICK_UP_approved, SINSUFFICIENT_FUNDS, EINSUFFICIENT_FUNDS, FINSUFFICIENT_FUNDS_approved, SCSC_FAILED, ECSC_FAILED, FCSC_FAILED_approved, SNETWORK_UNAVAILABLE, ENETWORK_UNAVAILABLE, FNETWORK_UNAVAILABLE_approved, SPARTIALLY_APPROVED, EPARTIALLY_APPROVED, FPARTIALLY_APPROVED_approved, FPARTIALLY_APPROVED_heldBackInCents, FINVALID_CARD_heldBackInCents, FREFERRAL_heldBackInCents, FLOST_OR_STOLEN_heldBackInCents, FNETWORK_ERROR_heldBackInCents, FPICK_UP_heldBackInCents, FINSUFFICIENT_FUNDS_heldBackInCents, FCSC_FAILED_heldBackInCents, FNETWORK_UNAVAILABLE_heldBackInCents, trivial⟩  p e ha hc hk s m _ below hf ((Spec.applies_iff_loose hf).mp happ).1 ⟨rfl, State.Warmed39.refl s, rfl⟩ trivial
  refine ⟨n, _, h1, h2, h3, hpost _ _ _ _ _ _ ⟨Cond.after_iff.mpr rfl, Cond.after_iff.mpr (eq_i res_at (Term.int_eval (1)) rfl), trivial⟩ ⟨hq.1, hq.2.1, (hq.2.2.sift fun y hy => Or.inr (N y hy)).mono (by decide) (by decide)⟩⟩
theorem main_1_1 : Claimed_1_1 := comes_1 fun _ _ _ _ _ _ h hF => ⟨h.1, hF⟩
theorem main_1_2 : Claimed_1_2 := comes_1 fun _ _ _ _ _ _ h hF => ⟨h.2.1, hF⟩
end Jvm.Pilot.@@N@@
namespace Jvm.Pilot.@@N@@
open Jvm Jvm.ClassFile Sem Op Lib Jvm.Free Jvm.Stand Jvm.Pilot.@@N@@.Jvm.D
/-! MADE BY PROGRAM (witnessworld.py) out of the Statement's table words and the real class files: 12 classes; the members and pool entries that the words name. The judged class is class 1, her method 1. -/
namespace start1
open Jvm.ClassFile
def u (s : String) : CpInfo := .utf8 (stringToUtf16 s)
/-- a pool by its gaps: so many unusable entries, then the entry; so many at the end -/
def gap : Nat → List CpInfo → List CpInfo
  | 0, r => r
  | n + 1, r => .unusable :: gap n r
def poolList (es : List (Nat × CpInfo)) (last : Nat) : List CpInfo := es.foldr (fun e r => gap e.1 (e.2 :: r)) (gap last [])
def pool (es : List (Nat × CpInfo)) (last : Nat) : Array CpInfo := ⟨poolList es last⟩
def fileOf (pool : Array CpInfo) (this : Nat) (attrs : Array Attribute := #[]) (ms : Array MethodInfo := #[]) (fl : Nat := 33) (sup : Nat := 0) (ifs : Array Nat := #[]) (fds : Array FieldInfo := #[]) : ClassFile where
  minorVersion := 0
  majorVersion := 65
  constantPool := pool
  accessFlags := fl
  thisClass := this
  superClass := sup
  interfaces := ifs
  fields := fds
  methods := ms
  attributes := attrs
def plain (name : String) (sup : Option ClassId) : Class where
  name := name
  kind := .ordinary
  loader := none
  accessFlags := 33
  super := sup
  interfaces := #[]
  cf := none
  fields := #[]
  methods := #[]
  instanceTypes := #[]
  staticTypes := #[]
  resolved := #[]
  callSites := []
  init := .initialized
  statics := none
  mirror := none

def pool0 : Array CpInfo := pool [(5, u "<init>"), (0, u "()V"), (1, .class_ 10), (1, u "java/lang/Object")] 113

def k0m0 : Method := { name := "<init>", desc := "()V", sig := { parameters := [], returnType := none }, accessFlags := 1, code := none }
/-- java/lang/Object -/
def k0 : Class := { plain "java/lang/Object" none with
  accessFlags := 33
  interfaces := #[]
  cf := some (fileOf pool0 8 #[] #[{ accessFlags := 1, nameIndex := 5, descriptorIndex := 6, attributes := #[] }] 33 0 #[] #[])
  fields := #[]
  methods := #[k0m0]
  instanceTypes := #[]
  staticTypes := #[]
  resolved := Array.replicate 124 none
  statics := none }

def pool1 : Array CpInfo := pool [(2, .class_ 4), (1, u "java/lang/Object"), (0, u "<init>"), (0, u "()V"), (0, .integer 2147483647), (0, .methodref 9 10), (0, .class_ 11), (0, .nameAndType 12 13), (0, u "com/example/cardstand/cardstand/scenario/ResultApprovedInCentsPinLaw"), (0, u "resultFor"), (0, u "(I)Lcom/example/cardstand/cardstand/scenario/PaymentAppScenario$Result;"), (0, .methodref 9 15), (0, .nameAndType 16 17), (0, u "expectedFor"), (0, u "(IJ)J"), (0, .methodref 19 20), (0, .class_ 21), (0, .nameAndType 22 23), (0, u "com/example/cardstand/cardstand/scenario/PaymentAppScenario$Result"), (0, u "approvedInCents"), (0, u "(J)J"), (0, .fieldref 19 25), (0, .nameAndType 26 27), (0, u "APPROVED"), (0, u "Lcom/example/cardstand/cardstand/scenario/PaymentAppScenario$Result;"), (0, .fieldref 19 29), (0, .nameAndType 30 27), (0, u "VOICE_APPROVED"), (0, .fieldref 19 32), (0, .nameAndType 33 27), (0, u "INVALID_CARD"), (0, .fieldref 19 35), (0, .nameAndType 36 27), (0, u "LOST_OR_STOLEN"), (0, .fieldref 19 38), (0, .nameAndType 39 27), (0, u "REFERRAL"), (0, .fieldref 19 41), (0, .nameAndType 42 27), (0, u "PICK_UP"), (0, .fieldref 19 44), (0, .nameAndType 45 27), (0, u "CSC_FAILED"), (0, .fieldref 19 47), (0, .nameAndType 48 27), (0, u "INSUFFICIENT_FUNDS"), (0, .fieldref 19 50), (0, .nameAndType 51 27), (0, u "NETWORK_UNAVAILABLE"), (0, .fieldref 19 53), (0, .nameAndType 54 27), (0, u "NETWORK_ERROR"), (0, .fieldref 19 56), (0, .nameAndType 57 27), (0, u "PARTIALLY_APPROVED"), (0, .fieldref 19 59), (0, .nameAndType 60 27), (0, u "CREDIT_POSTED"), (0, .long 1000), (3, u "law"), (0, u "(IJ)Z")] 7

def k1m0 : Method := { name := "<init>", desc := "()V", sig := { parameters := [], returnType := none }, accessFlags := 2, code := none }
def k1c1 : Code := { maxStack := 4, maxLocals := 7, code := code, exceptionTable := #[], attributes := #[] }
def k1m1 : Method := { name := "law", desc := "(IJ)Z", sig := { parameters := [.int, .long], returnType := some .boolean }, accessFlags := 9, code := some k1c1 }
def k1c2 : Code := { maxStack := 2, maxLocals := 1, code := method_3_code, exceptionTable := #[], attributes := #[] }
def k1m2 : Method := { name := "resultFor", desc := "(I)Lcom/example/cardstand/cardstand/scenario/PaymentAppScenario$Result;", sig := { parameters := [.int], returnType := some (.object "com/example/cardstand/cardstand/scenario/PaymentAppScenario$Result") }, accessFlags := 10, code := some k1c2 }
def k1c3 : Code := { maxStack := 4, maxLocals := 3, code := method_4_code, exceptionTable := #[], attributes := #[] }
def k1m3 : Method := { name := "expectedFor", desc := "(IJ)J", sig := { parameters := [.int, .long], returnType := some .long }, accessFlags := 10, code := some k1c3 }
/-- com/example/cardstand/cardstand/scenario/ResultApprovedInCentsPinLaw -/
def k1 : Class := { plain "com/example/cardstand/cardstand/scenario/ResultApprovedInCentsPinLaw" (some 0) with
  accessFlags := 49
  interfaces := #[]
  cf := some (fileOf pool1 9 #[] #[{ accessFlags := 2, nameIndex := 5, descriptorIndex := 6, attributes := #[] }, { accessFlags := 9, nameIndex := 65, descriptorIndex := 66, attributes := #[] }, { accessFlags := 10, nameIndex := 12, descriptorIndex := 13, attributes := #[] }, { accessFlags := 10, nameIndex := 16, descriptorIndex := 17, attributes := #[] }] 49 2 #[] #[])
  fields := #[]
  methods := #[k1m0, k1m1, k1m2, k1m3]
  instanceTypes := #[]
  staticTypes := #[]
  resolved := Array.replicate 74 none
  statics := none }

def pool2 : Array CpInfo := pool [(1, .class_ 2), (0, u "java/lang/constant/Constable"), (0, .class_ 4), (0, u "java/lang/Object")] 6

/-- java/lang/constant/Constable -/
def k2 : Class := { plain "java/lang/constant/Constable" (some 0) with
  accessFlags := 1537
  interfaces := #[]
  cf := some (fileOf pool2 1 #[] #[] 1537 3 #[] #[])
  fields := #[]
  methods := #[]
  instanceTypes := #[]
  staticTypes := #[]
  resolved := Array.replicate 11 none
  statics := none }

def pool3 : Array CpInfo := pool [(1, .class_ 2), (0, u "java/lang/Comparable"), (0, .class_ 4), (0, u "java/lang/Object")] 7

/-- java/lang/Comparable -/
def k3 : Class := { plain "java/lang/Comparable" (some 0) with
  accessFlags := 1537
  interfaces := #[]
  cf := some (fileOf pool3 1 #[] #[] 1537 3 #[] #[])
  fields := #[]
  methods := #[]
  instanceTypes := #[]
  staticTypes := #[]
  resolved := Array.replicate 12 none
  statics := none }

def pool4 : Array CpInfo := pool [(1, .class_ 2), (0, u "java/io/Serializable"), (0, .class_ 4), (0, u "java/lang/Object")] 2

/-- java/io/Serializable -/
def k4 : Class := { plain "java/io/Serializable" (some 0) with
  accessFlags := 1537
  interfaces := #[]
  cf := some (fileOf pool4 1 #[] #[] 1537 3 #[] #[])
  fields := #[]
  methods := #[]
  instanceTypes := #[]
  staticTypes := #[]
  resolved := Array.replicate 7 none
  statics := none }

def pool5 : Array CpInfo := pool [(2, .class_ 4), (1, u "java/lang/Enum"), (0, u "name"), (0, u "Ljava/lang/String;"), (2, u "ordinal"), (0, u "I"), (1, .class_ 14), (1, u "java/lang/Object"), (4, u "hash"), (86, .class_ 108), (1, u "java/lang/Enum$EnumDesc"), (2, .class_ 112), (0, u "java/lang/constant/Constable"), (0, .class_ 114), (0, u "java/lang/Comparable"), (0, .class_ 116), (0, u "java/io/Serializable")] 87

/-- java/lang/Enum -/
def k5 : Class := { plain "java/lang/Enum" (some 0) with
  accessFlags := 1057
  interfaces := #[2, 3, 4]
  cf := some (fileOf pool5 2 #[.nestMembers #[106]] #[] 1057 12 #[111, 113, 115] #[{ accessFlags := 18, nameIndex := 5, descriptorIndex := 6, attributes := #[] }, { accessFlags := 18, nameIndex := 9, descriptorIndex := 10, attributes := #[] }, { accessFlags := 2, nameIndex := 19, descriptorIndex := 10, attributes := #[] }])
  fields := #[{ name := "name", type := (.object "java/lang/String"), accessFlags := 18, slot := 0, constantValue := 0 }, { name := "ordinal", type := .int, accessFlags := 18, slot := 1, constantValue := 0 }, { name := "hash", type := .int, accessFlags := 2, slot := 2, constantValue := 0 }]
  methods := #[]
  instanceTypes := #[(.object "java/lang/String"), .int, .int]
  staticTypes := #[]
  resolved := Array.replicate 204 none
  statics := none }

def pool6 : Array CpInfo := pool [(1, .class_ 2), (0, u "com/example/cardstand/cardstand/scenario/PaymentAppScenario$Result"), (2, u "APPROVED"), (0, u "Lcom/example/cardstand/cardstand/scenario/PaymentAppScenario$Result;"), (2, u "VOICE_APPROVED"), (2, u "INVALID_CARD"), (2, u "LOST_OR_STOLEN"), (2, u "REFERRAL"), (2, u "PICK_UP"), (2, u "CSC_FAILED"), (2, u "INSUFFICIENT_FUNDS"), (2, u "NETWORK_UNAVAILABLE"), (2, u "NETWORK_ERROR"), (2, u "PARTIALLY_APPROVED"), (2, u "CREDIT_POSTED"), (2, u "$VALUES"), (0, u "[Lcom/example/cardstand/cardstand/scenario/PaymentAppScenario$Result;"), (6, .class_ 52), (1, u "java/lang/Enum"), (6, .fieldref 1 60), (0, .nameAndType 61 62), (0, u "approved"), (0, u "Z"), (2, u "text"), (0, u "Ljava/lang/String;"), (0, .fieldref 1 68), (0, .nameAndType 69 70), (0, u "heldBackInCents"), (0, u "J"), (2, u "voiced"), (13, .class_ 89), (1, u "com/example/cardstand/cardstand/scenario/PaymentAppScenario"), (61, u "approvedInCents"), (0, u "(J)J")] 28

def k6c0 : Code := { maxStack := 4, maxLocals := 3, code := prog_39_method_7_code, exceptionTable := #[], attributes := #[] }
def k6m0 : Method := { name := "approvedInCents", desc := "(J)J", sig := { parameters := [.long], returnType := some .long }, accessFlags := 1, code := some k6c0 }
/-- com/example/cardstand/cardstand/scenario/PaymentAppScenario$Result -/
def k6 : Class := { plain "com/example/cardstand/cardstand/scenario/PaymentAppScenario$Result" (some 5) with
  accessFlags := 16433
  interfaces := #[]
  cf := some (fileOf pool6 1 #[.nestHost 87] #[{ accessFlags := 1, nameIndex := 151, descriptorIndex := 152, attributes := #[] }] 16433 50 #[] #[{ accessFlags := 16409, nameIndex := 5, descriptorIndex := 6, attributes := #[] }, { accessFlags := 16409, nameIndex := 9, descriptorIndex := 6, attributes := #[] }, { accessFlags := 16409, nameIndex := 12, descriptorIndex := 6, attributes := #[] }, { accessFlags := 16409, nameIndex := 15, descriptorIndex := 6, attributes := #[] }, { accessFlags := 16409, nameIndex := 18, descriptorIndex := 6, attributes := #[] }, { accessFlags := 16409, nameIndex := 21, descriptorIndex := 6, attributes := #[] }, { accessFlags := 16409, nameIndex := 24, descriptorIndex := 6, attributes := #[] }, { accessFlags := 16409, nameIndex := 27, descriptorIndex := 6, attributes := #[] }, { accessFlags := 16409, nameIndex := 30, descriptorIndex := 6, attributes := #[] }, { accessFlags := 16409, nameIndex := 33, descriptorIndex := 6, attributes := #[] }, { accessFlags := 16409, nameIndex := 36, descriptorIndex := 6, attributes := #[] }, { accessFlags := 16409, nameIndex := 39, descriptorIndex := 6, attributes := #[] }, { accessFlags := 18, nameIndex := 61, descriptorIndex := 62, attributes := #[] }, { accessFlags := 18, nameIndex := 65, descriptorIndex := 66, attributes := #[] }, { accessFlags := 18, nameIndex := 69, descriptorIndex := 70, attributes := #[] }, { accessFlags := 18, nameIndex := 73, descriptorIndex := 62, attributes := #[] }, { accessFlags := 4122, nameIndex := 42, descriptorIndex := 43, attributes := #[] }])
  fields := #[{ name := "APPROVED", type := (.object "com/example/cardstand/cardstand/scenario/PaymentAppScenario$Result"), accessFlags := 16409, slot := 0, constantValue := 0 }, { name := "VOICE_APPROVED", type := (.object "com/example/cardstand/cardstand/scenario/PaymentAppScenario$Result"), accessFlags := 16409, slot := 1, constantValue := 0 }, { name := "INVALID_CARD", type := (.object "com/example/cardstand/cardstand/scenario/PaymentAppScenario$Result"), accessFlags := 16409, slot := 2, constantValue := 0 }, { name := "LOST_OR_STOLEN", type := (.object "com/example/cardstand/cardstand/scenario/PaymentAppScenario$Result"), accessFlags := 16409, slot := 3, constantValue := 0 }, { name := "REFERRAL", type := (.object "com/example/cardstand/cardstand/scenario/PaymentAppScenario$Result"), accessFlags := 16409, slot := 4, constantValue := 0 }, { name := "PICK_UP", type := (.object "com/example/cardstand/cardstand/scenario/PaymentAppScenario$Result"), accessFlags := 16409, slot := 5, constantValue := 0 }, { name := "CSC_FAILED", type := (.object "com/example/cardstand/cardstand/scenario/PaymentAppScenario$Result"), accessFlags := 16409, slot := 6, constantValue := 0 }, { name := "INSUFFICIENT_FUNDS", type := (.object "com/example/cardstand/cardstand/scenario/PaymentAppScenario$Result"), accessFlags := 16409, slot := 7, constantValue := 0 }, { name := "NETWORK_UNAVAILABLE", type := (.object "com/example/cardstand/cardstand/scenario/PaymentAppScenario$Result"), accessFlags := 16409, slot := 8, constantValue := 0 }, { name := "NETWORK_ERROR", type := (.object "com/example/cardstand/cardstand/scenario/PaymentAppScenario$Result"), accessFlags := 16409, slot := 9, constantValue := 0 }, { name := "PARTIALLY_APPROVED", type := (.object "com/example/cardstand/cardstand/scenario/PaymentAppScenario$Result"), accessFlags := 16409, slot := 10, constantValue := 0 }, { name := "CREDIT_POSTED", type := (.object "com/example/cardstand/cardstand/scenario/PaymentAppScenario$Result"), accessFlags := 16409, slot := 11, constantValue := 0 }, { name := "approved", type := .boolean, accessFlags := 18, slot := 3, constantValue := 0 }, { name := "text", type := (.object "java/lang/String"), accessFlags := 18, slot := 4, constantValue := 0 }, { name := "heldBackInCents", type := .long, accessFlags := 18, slot := 5, constantValue := 0 }, { name := "voiced", type := .boolean, accessFlags := 18, slot := 6, constantValue := 0 }, { name := "$VALUES", type := (.array (.object "com/example/cardstand/cardstand/scenario/PaymentAppScenario$Result")), accessFlags := 4122, slot := 12, constantValue := 0 }]
  methods := #[k6m0]
  instanceTypes := #[(.object "java/lang/String"), .int, .int, .boolean, (.object "java/lang/String"), .long, .boolean]
  staticTypes := #[(.object "com/example/cardstand/cardstand/scenario/PaymentAppScenario$Result"), (.object "com/example/cardstand/cardstand/scenario/PaymentAppScenario$Result"), (.object "com/example/cardstand/cardstand/scenario/PaymentAppScenario$Result"), (.object "com/example/cardstand/cardstand/scenario/PaymentAppScenario$Result"), (.object "com/example/cardstand/cardstand/scenario/PaymentAppScenario$Result"), (.object "com/example/cardstand/cardstand/scenario/PaymentAppScenario$Result"), (.object "com/example/cardstand/cardstand/scenario/PaymentAppScenario$Result"), (.object "com/example/cardstand/cardstand/scenario/PaymentAppScenario$Result"), (.object "com/example/cardstand/cardstand/scenario/PaymentAppScenario$Result"), (.object "com/example/cardstand/cardstand/scenario/PaymentAppScenario$Result"), (.object "com/example/cardstand/cardstand/scenario/PaymentAppScenario$Result"), (.object "com/example/cardstand/cardstand/scenario/PaymentAppScenario$Result"), (.array (.object "com/example/cardstand/cardstand/scenario/PaymentAppScenario$Result"))]
  resolved := Array.replicate 181 none
  statics := some 0 }

def pool7 : Array CpInfo := pool [(1, u "java/lang/Cloneable"), (0, .class_ 1), (0, u "java/lang/Object"), (0, .class_ 3)] 3

/-- java/lang/Cloneable -/
def k7 : Class := { plain "java/lang/Cloneable" (some 0) with
  accessFlags := 1537
  interfaces := #[]
  cf := some (fileOf pool7 2 #[] #[] 1537 4 #[] #[])
  fields := #[]
  methods := #[]
  instanceTypes := #[]
  staticTypes := #[]
  resolved := Array.replicate 8 none
  statics := none }

/-- the primitive byte -/
def k8 : Class := { plain "byte" none with kind := .primitive 'B', accessFlags := 0x411 }
/-- [B -/
def k9 : Class := { plain "[B" (some 0) with kind := .array 8 .byte, interfaces := #[7, 4], accessFlags := 1041 }

/-- the primitive int -/
def k10 : Class := { plain "int" none with kind := .primitive 'I', accessFlags := 0x411 }
/-- [I -/
def k11 : Class := { plain "[I" (some 0) with kind := .array 10 .int, interfaces := #[7, 4], accessFlags := 1041 }

def heap : Heap := #[{ cls := 6, slots := #[.ref 1, .ref 2, .ref 3, .ref 5, .ref 4, .ref 8, .ref 10, .ref 9, .ref 11, .ref 7, .ref 12, .ref 6, .null], vm := .statics 6 },
  { cls := 6, slots := #[.null, .int 0, .int 0, .int 1, .null, .long 0, .int 0], vm := .none },
  { cls := 6, slots := #[.null, .int 0, .int 0, .int 1, .null, .long 0, .int 0], vm := .none },
  { cls := 6, slots := #[.null, .int 0, .int 0, .int 0, .null, .long 0, .int 0], vm := .none },
  { cls := 6, slots := #[.null, .int 0, .int 0, .int 0, .null, .long 0, .int 0], vm := .none },
  { cls := 6, slots := #[.null, .int 0, .int 0, .int 0, .null, .long 0, .int 0], vm := .none },
  { cls := 6, slots := #[.null, .int 0, .int 0, .int 1, .null, .long 0, .int 0], vm := .none },
  { cls := 6, slots := #[.null, .int 0, .int 0, .int 0, .null, .long 0, .int 0], vm := .none },
  { cls := 6, slots := #[.null, .int 0, .int 0, .int 0, .null, .long 0, .int 0], vm := .none },
  { cls := 6, slots := #[.null, .int 0, .int 0, .int 0, .null, .long 0, .int 0], vm := .none },
  { cls := 6, slots := #[.null, .int 0, .int 0, .int 0, .null, .long 0, .int 0], vm := .none },
  { cls := 6, slots := #[.null, .int 0, .int 0, .int 0, .null, .long 0, .int 0], vm := .none },
  { cls := 6, slots := #[.null, .int 0, .int 0, .int 1, .null, .long 1000, .int 0], vm := .none }]
def classes : Array Class := #[k0, k1, k2, k3, k4, k5, k6, k7, k8, k9, k10, k11]
def interned : List (Array UInt16 × Addr) := []
def slotsUsed : Nat := 97
def theMethod : MethodId := ⟨1, 1⟩
def args0 : Array Value := #[.int 5, .long 7]
def aboutOver (below : List Frame) : State where
  vm := { classes := classes, interned := interned.toArray }
  heap := heap
  slotsUsed := slotsUsed
  threads := #[{ frames := .invoking theMethod args0 :: below }]
def below0 : List Frame := [.native { method := ⟨0, 0⟩, args := #[] }]
def about1 : State := aboutOver below0
def p0 : Program := .bare "" "" ""
def e0 : Env := launch0.env 0 0 0
theorem w_frames : about1.frames = Frame.invoking theMethod args0 :: below0 := rfl
set_option maxRecDepth 65536 in
theorem w_args : argsFit about1.vm theMethod args0 = true := by decide +kernel
set_option maxRecDepth 65536 in
theorem w_heap : heapFits about1 = true := by decide +kernel
set_option maxRecDepth 65536 in
theorem w_runnable : about1.curStatus? = some .runnable := by decide +kernel
set_option maxRecDepth 65536 in
theorem w_alone : about1.alone = true := by decide +kernel
set_option maxRecDepth 65536 in
theorem w_named : about1.methodNamed? x = some theMethod := by decide +kernel
set_option maxRecDepth 65536 in
theorem w_hears : about1.hears theMethod below0 = true := by decide +kernel
set_option maxRecDepth 65536 in
theorem w_ripe : about1.ripe theMethod args0 below0 = true := by decide +kernel
theorem w_running : about1.status = .running := rfl
set_option maxRecDepth 65536 in
theorem w_room : about1.hasRoom e0.platform room_1 = true :=
  launch0.hasRoom_least _ room_1 (by decide +kernel) (by decide +kernel) (by decide +kernel) (by decide +kernel) (by decide +kernel) (by decide +kernel)
theorem allAtoms_all (ts : List Jvm.Cond) (a : Array Jvm.Value) (st : Jvm.State) : (allAtoms ts).before a st = ts.all (fun c => c.before a st) := by
  induction ts with
  | nil => rfl
  | cons c t ih =>
    show (Jvm.Cond.and c (allAtoms t)).before a st = _
    rw [Jvm.Cond.before_and, ih, List.all_cons]
def words1 : List Jvm.Cond := Jvm.Cond.code x code maxLocals ret :: tables_1
/-- a 'code' word, met by the world's own term for the bytes: nothing is compared byte by byte -/
theorem code_word {y : MethodName} {bytes : ByteArray} {mx : Nat} {rt : Option FieldType} {a : Array Value} {s : State} {m : MethodId} {meth : Method} {c : Code} (h1 : s.methodNamed? y = some m) (h2 : s.vm.method? m = some meth) (h3 : meth.code = some c) (h4 : c.code = bytes)
    (h5 : (c.maxLocals == mx && c.exceptionTable.isEmpty && decide (c.maxStack ≤ mostOperands) && decide (meth.sig.returnType = rt) && !meth.locks && decide (parseMethodDescriptor y.desc = some meth.sig)) = true) : (Jvm.Cond.code y bytes mx rt).before a s = true := by
  simp only [Bool.and_eq_true, beq_iff_eq, Bool.not_eq_true', decide_eq_true_eq] at h5
  obtain ⟨⟨⟨⟨⟨g1, g2⟩, g3⟩, g4⟩, g5⟩, g6⟩ := h5
  simp [Cond.before, Cond.holds, Cond.value, h1, h2, h3, h4, g1, g2, g3, g4, g5, g6]
def isCode : Jvm.Cond → Bool
  | .code _ _ _ _ => true
  | _ => false
theorem all_split {L : List Jvm.Cond} {P : Jvm.Cond → Bool} (h1 : L.all (fun c => isCode c || P c) = true) (h2 : ∀ c ∈ L.filter isCode, P c = true) : L.all P = true := by
  refine List.all_eq_true.mpr fun c hc => ?_
  have h := List.all_eq_true.mp h1 c hc
  rcases Bool.eq_false_or_eq_true (isCode c) with hi | hi
  · exact h2 c (List.mem_filter.mpr ⟨hc, hi⟩)
  · simpa [hi] using h
set_option maxRecDepth 65536 in
theorem w_c0 : (Jvm.Cond.code x code maxLocals ret).before args0 about1 = true := code_word (m := ⟨1, 1⟩) (meth := k1m1) (c := k1c1) (by decide +kernel) rfl rfl rfl (by decide +kernel)
set_option maxRecDepth 65536 in
theorem w_c1 : (Jvm.Cond.code ({ cls := "com/example/cardstand/cardstand/scenario/ResultApprovedInCentsPinLaw", name := "resultFor", desc := "(I)Lcom/example/cardstand/cardstand/scenario/PaymentAppScenario$Result;" } : Jvm.MethodName) method_3_code (1 : Nat) (Option.some (Jvm.ClassFile.FieldType.object "com/example/cardstand/cardstand/scenario/PaymentAppScenario$Result"))).before args0 about1 = true := code_word (m := ⟨1, 2⟩) (meth := k1m2) (c := k1c2) (by decide +kernel) rfl rfl rfl (by decide +kernel)
set_option maxRecDepth 65536 in
theorem w_c2 : (Jvm.Cond.code ({ cls := "com/example/cardstand/cardstand/scenario/ResultApprovedInCentsPinLaw", name := "expectedFor", desc := "(IJ)J" } : Jvm.MethodName) method_4_code (3 : Nat) (Option.some Jvm.ClassFile.FieldType.long)).before args0 about1 = true := code_word (m := ⟨1, 3⟩) (meth := k1m3) (c := k1c3) (by decide +kernel) rfl rfl rfl (by decide +kernel)
set_option maxRecDepth 65536 in
theorem w_c3 : (Jvm.Cond.code ({ cls := "com/example/cardstand/cardstand/scenario/PaymentAppScenario$Result", name := "approvedInCents", desc := "(J)J" } : Jvm.MethodName) prog_39_method_7_code (3 : Nat) (Option.some Jvm.ClassFile.FieldType.long)).before args0 about1 = true := code_word (m := ⟨6, 0⟩) (meth := k6m0) (c := k6c0) (by decide +kernel) rfl rfl rfl (by decide +kernel)
def codes1 : List Jvm.Cond := [Jvm.Cond.code x code maxLocals ret, Jvm.Cond.code ({ cls := "com/example/cardstand/cardstand/scenario/ResultApprovedInCentsPinLaw", name := "resultFor", desc := "(I)Lcom/example/cardstand/cardstand/scenario/PaymentAppScenario$Result;" } : Jvm.MethodName) method_3_code (1 : Nat) (Option.some (Jvm.ClassFile.FieldType.object "com/example/cardstand/cardstand/scenario/PaymentAppScenario$Result")), Jvm.Cond.code ({ cls := "com/example/cardstand/cardstand/scenario/ResultApprovedInCentsPinLaw", name := "expectedFor", desc := "(IJ)J" } : Jvm.MethodName) method_4_code (3 : Nat) (Option.some Jvm.ClassFile.FieldType.long), Jvm.Cond.code ({ cls := "com/example/cardstand/cardstand/scenario/PaymentAppScenario$Result", name := "approvedInCents", desc := "(J)J" } : Jvm.MethodName) prog_39_method_7_code (3 : Nat) (Option.some Jvm.ClassFile.FieldType.long)]
set_option maxRecDepth 65536 in
theorem codes_eq : words1.filter isCode = codes1 := rfl
theorem w_codes : ∀ c ∈ words1.filter isCode, c.before args0 about1 = true := by
  rw [codes_eq]
  intro c hc
  simp only [codes1, List.mem_cons, List.not_mem_nil, or_false] at hc
  rcases hc with rfl | rfl | rfl | rfl
  · exact w_c0
  · exact w_c1
  · exact w_c2
  · exact w_c3
set_option maxRecDepth 65536 in
theorem w_t1 : (words1.take 24).all (fun c => isCode c || c.before args0 about1) = true := by decide +kernel
set_option maxRecDepth 65536 in
theorem w_t2 : (words1.drop 24).all (fun c => isCode c || c.before args0 about1) = true := by decide +kernel
theorem w_tables : (allAtoms (Jvm.Cond.code x code maxLocals ret :: tables_1)).before args0 about1 = true := by
  rw [allAtoms_all]
  show words1.all (fun c => c.before args0 about1) = true
  refine all_split ?_ w_codes
  rw [← List.take_append_drop 24 words1, List.all_append, w_t1, w_t2]
  rfl
set_option maxRecDepth 65536 in
theorem w_case : (Jvm.Cond.and given_1 narrow_1).before args0 about1 = true := by decide +kernel
theorem w_applies : (headSpec (Jvm.Cond.code x code maxLocals ret :: tables_1) room_1).applies x e0.platform about1 = true :=
  (Spec.applies_iff w_frames).mpr ⟨w_running, w_runnable, w_alone, w_named, w_hears, w_ripe, w_room, w_tables⟩
theorem atStart : AtStart classFile x code maxLocals ret World_1 tables_1 room_1 Calls_1 rest_1 Pre_1 launch0 p0 e0 about1 theMethod args0 below0 :=
  ⟨lists_1, trivial, launch0.admits_env _ _ _, launch0.least_env, fairChoices_fair.cas, fairChoices_fair.clock, w_frames, w_args, w_heap, w_applies, trivial, trivial, w_case⟩
end start1
theorem witness_1 : WitnessClaimed_1 := ⟨start1.p0, start1.e0, start1.about1, start1.theMethod, start1.args0, start1.below0, start1.atStart⟩
end Jvm.Pilot.@@N@@
