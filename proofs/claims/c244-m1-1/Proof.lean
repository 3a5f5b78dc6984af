import JvmDerived
import JvmDerived.Pilot.@@N@@Statement
import JvmDerived.Pilot.@@N@@Code
set_option linter.unusedVariables false
set_option linter.unusedSimpArgs false
namespace Jvm.RoadKit
open Sem ClassFile Op Lib Jvm.Stand Jvm.Free Jvm.LawKit
section New
variable {p : Program} {l : Launch} {e : Env} {R : Room} {s : State} {m : MethodId} {args : Array Value} {below : List Frame} {meth : Method} {c : Code} {T : State} {locs : List Loc} {cells slots : Nat}
theorem own_retI (X : Stand p l e R s m args below meth c T locs cells slots) (hx : p.tables.exec = Jvm.exec) {pc : Nat} {Ls : Array Slot} {z : Int32} {rest : List Value} (hret : meth.sig.returnType = some .int) (hd : decode c.code pc = .ok (.ireturn, 1)) {fs : List Frame}
    (hl : ∀ (f : JFrame) (acts : List Action), f.method = m → f.locked = none → f.entered = [] → (doReturn e (T.setTop f) acts (some (.int z))).1 = T.setFrames fs) : Steps p.tables e below (T.setTop (mkF m pc Ls (.int z :: rest))) (T.setFrames fs) :=
  retOut X hx hret rfl (Or.inl ⟨rfl, Or.inl rfl, z, rfl⟩) hd hl
theorem own_retL (X : Stand p l e R s m args below meth c T locs cells slots) (hx : p.tables.exec = Jvm.exec) {pc : Nat} {Ls : Array Slot} {z : Int64} {rest : List Value} (hret : meth.sig.returnType = some .long) (hd : decode c.code pc = .ok (.lreturn, 1)) {fs : List Frame}
    (hl : ∀ (f : JFrame) (acts : List Action), f.method = m → f.locked = none → f.entered = [] → (doReturn e (T.setTop f) acts (some (.long z))).1 = T.setFrames fs) : Steps p.tables e below (T.setTop (mkF m pc Ls (.long z :: rest))) (T.setFrames fs) :=
  retOut X hx hret rfl (Or.inr (Or.inl ⟨rfl, rfl, z, rfl⟩)) hd hl
theorem own_retA (X : Stand p l e R s m args below meth c T locs cells slots) (hx : p.tables.exec = Jvm.exec) {pc : Nat} {Ls : Array Slot} {w : Value} {t : FieldType} {rest : List Value} (hret : meth.sig.returnType = some t) (ht : t.isReference = true) (hw : w.isRef = true) (hd : decode c.code pc = .ok (.areturn, 1)) {fs : List Frame}
    (hl : ∀ (f : JFrame) (acts : List Action), f.method = m → f.locked = none → f.entered = [] → (doReturn e (T.setTop f) acts (some w)).1 = T.setFrames fs) : Steps p.tables e below (T.setTop (mkF m pc Ls (w :: rest))) (T.setFrames fs) :=
  retOut X hx hret (by cases t <;> cases w <;> simp_all [narrow, Value.isRef, FieldType.isReference]) (Or.inr (Or.inr (Or.inr (Or.inr ⟨rfl, ht, hw⟩)))) hd hl
end New
end Jvm.RoadKit
namespace Jvm.Pilot.@@N@@
open Jvm Jvm.ClassFile Sem Op Lib Jvm.Free Jvm.Stand Jvm.LawKit Jvm.RoadKit Bundle Jvm.Pilot.@@N@@.Jvm.D
theorem own_irr {x : Int32} : ¬ x < x := by rw [Int32.lt_iff_toInt_lt]; omega
theorem own_lcEt {x y : Int64} (h : x = y) : lcmpW x y = (0 : Int32) := by rw [lcW]; exact (lc_eq x y).mpr h
theorem own_lcEf {x y : Int64} (h : ¬ (x = y)) : ¬ (lcmpW x y = (0 : Int32)) := by rw [lcW]; exact fun q => h ((lc_eq x y).mp q)
theorem own_lcLt {x y : Int64} (h : x < y) : lcmpW x y < (0 : Int32) := by rw [lcW]; exact (lc_lt x y).mpr h
theorem own_lcLf {x y : Int64} (h : ¬ (x < y)) : ¬ (lcmpW x y < (0 : Int32)) := by rw [lcW]; exact fun q => h ((lc_lt x y).mp q)
theorem own_lcGt {x y : Int64} (h : y < x) : (0 : Int32) < lcmpW x y := by rw [lcW]; exact (lc_gt x y).mpr h
theorem own_lcGf {x y : Int64} (h : ¬ (y < x)) : ¬ ((0 : Int32) < lcmpW x y) := by rw [lcW]; exact fun q => h ((lc_gt x y).mp q)
theorem own_ext_refl (h : Heap) : Ext h h := ⟨Nat.le_refl _, fun _ _ q => q⟩
theorem own_ext_trans {h h' h'' : Heap} (E : Ext h h') (F : Ext h' h'') : Ext h h'' := ⟨Nat.le_trans E.1 F.1, fun a c q => F.2 a c (E.2 a c q)⟩
theorem own_ext_wr {h h' h'' : Heap} {a : Addr} {sl : Nat} {v : Value} (E : Ext h h') (W : Wr h' h'' a sl v) (q : h.size ≤ a) : Ext h h'' := by
  obtain ⟨cell, -, -, -, rfl⟩ := W
  refine ⟨by simpa using E.1, fun b c r => ?_⟩
  have hb : b < h.size := (Array.getElem?_eq_some_iff.mp r).1
  rw [Array.getElem?_setIfInBounds_ne (Nat.ne_of_gt (Nat.lt_of_lt_of_le hb q))]
  exact E.2 b c r
theorem own_fldI {args : Array Value} {s : State} {t : Term} {a : Addr} {C n d : String} {k : Int32} (ev : t.eval args s none [] s = some (.ref a)) (h : (Cond.eq (.field t C n d) (.int k)).value args s none s [] = some true) : Fld s s.heap a C n d (.int k) := by
  obtain ⟨u, v, h1, h2, -, k2⟩ := cmp_v (Or.inl h)
  have e2 : (Term.int k).eval args s none [] s = some (.int k) := rfl
  cases e2.symm.trans h2
  obtain ⟨z, rfl⟩ := k2
  have q : z = k := by simpa [Cond.value, h1, e2] using h
  subst q
  exact Fld.start ((fld_at ev).symm.trans h1)
theorem own_fldJ {args : Array Value} {s : State} {t : Term} {a : Addr} {C n d : String} {k : Int64} (ev : t.eval args s none [] s = some (.ref a)) (h : (Cond.eq (.field t C n d) (.long k)).value args s none s [] = some true) : Fld s s.heap a C n d (.long k) := by
  obtain ⟨u, v, h1, h2, -, k2⟩ := cmp_v (Or.inl h)
  have e2 : (Term.long k).eval args s none [] s = some (.long k) := rfl
  cases e2.symm.trans h2
  obtain ⟨z, rfl⟩ := k2
  have q : z = k := by simpa [Cond.value, h1, e2] using h
  subst q
  exact Fld.start ((fld_at ev).symm.trans h1)
theorem own_fldN {args : Array Value} {s : State} {t : Term} {a : Addr} {C n d : String} (ev : t.eval args s none [] s = some (.ref a)) (h : (Cond.eq (.field t C n d) .null).value args s none s [] = some true) : Fld s s.heap a C n d .null :=
  Fld.start ((fld_at ev).symm.trans (null_v h))
theorem own_eqR {args : Array Value} {s : State} {t u : Term} {b : Addr} (eu : u.eval args s none [] s = some (.ref b)) (h : (Cond.eq t u).value args s none s [] = some true) : t.eval args s none [] s = some (.ref b) := by
  obtain ⟨x, y, h1, h2, k1, k2⟩ := cmp_v (Or.inl h)
  cases eu.symm.trans h2
  have hx : x.isRef = true := k2.2
  have q := gotT (eq_R h1 h2 hx rfl) h
  rw [h1, q]
theorem own_fldR {args : Array Value} {s : State} {t u : Term} {a b : Addr} {C n d : String} (ev : t.eval args s none [] s = some (.ref a)) (eu : u.eval args s none [] s = some (.ref b)) (h : (Cond.eq (.field t C n d) u).value args s none s [] = some true) : Fld s s.heap a C n d (.ref b) :=
  Fld.start ((fld_at ev).symm.trans (own_eqR eu h))
theorem own_elI {args : Array Value} {s : State} {t : Term} {a : Addr} {cl : Cell} {j k : Int32} {i : Nat} (ev : t.eval args s none [] s = some (.ref a)) (hc : s.heap[a]? = some cl) (h : (Cond.eq (.elem t (.int j)) (.int k)).value args s none s [] = some true) (hj : j.toNatClampNeg = i) : cl.slots[i]? = some (.int k) := by
  obtain ⟨u, v, h1, h2, -, k2⟩ := cmp_v (Or.inl h)
  have e2 : (Term.int k).eval args s none [] s = some (.int k) := rfl
  cases e2.symm.trans h2
  obtain ⟨z, rfl⟩ := k2
  have q : z = k := by simpa [Cond.value, h1, e2] using h
  subst q hj
  exact (elem_in h1 ev (rfl : (Term.int j).eval args s none [] s = some (.int j)) hc).2
theorem own_elR {args : Array Value} {s : State} {t u : Term} {a b : Addr} {cl : Cell} {j : Int32} {i : Nat} (ev : t.eval args s none [] s = some (.ref a)) (eu : u.eval args s none [] s = some (.ref b)) (hc : s.heap[a]? = some cl) (h : (Cond.eq (.elem t (.int j)) u).value args s none s [] = some true) (hj : j.toNatClampNeg = i) : cl.slots[i]? = some (.ref b) := by
  subst hj
  exact (elem_in (own_eqR eu h) ev (rfl : (Term.int j).eval args s none [] s = some (.int j)) hc).2
theorem own_len {args : Array Value} {s : State} {t : Term} {a : Addr} {cl : Cell} {ty : FieldType} {k : Int32} (ev : t.eval args s none [] s = some (.ref a)) (A : Arr s s.heap a cl ty) (h : (Cond.eq (.length t) (.int k)).value args s none s [] = some true) : cl.slots.size < 2 ^ 31 ∧ cl.slots.size.toInt32 = k := by
  obtain ⟨u, v, h1, h2, -, k2⟩ := cmp_v (Or.inl h)
  have e2 : (Term.int k).eval args s none [] s = some (.int k) := rfl
  cases e2.symm.trans h2
  obtain ⟨z, rfl⟩ := k2
  have q : z = k := by simpa [Cond.value, h1, e2] using h
  subst q
  have ha := A.fin (Vm.Alike.refl _)
  simp only [Term.eval, ev, ha, Option.bind_eq_bind, Option.bind_some] at h1
  split at h1
  · rename_i q
    exact ⟨q, by simpa using h1⟩
  · cases h1
theorem own_mask (p : Int32) : (p &&& (2147483647 : Int32)).toInt = p.toInt % 2 ^ 31 := by
  have h1 : (p &&& (2147483647 : Int32)).toInt = ((p &&& (2147483647 : Int32)).toBitVec).toInt := rfl
  have h2 : (p &&& (2147483647 : Int32)).toBitVec = p.toBitVec &&& 2147483647#32 := by simp [Int32.toBitVec_and]
  have h3 : p.toInt = p.toBitVec.toInt := rfl
  rw [h1, h2, h3, BitVec.toInt_eq_toNat_bmod, BitVec.toInt_eq_toNat_bmod, BitVec.toNat_and]
  have h4 : p.toBitVec.toNat &&& (2147483647#32).toNat = p.toBitVec.toNat % 2 ^ 31 := Nat.and_two_pow_sub_one_eq_mod _ 31
  rw [h4]
  have h5 := p.toBitVec.isLt
  generalize p.toBitVec.toNat = n at *
  simp only [Int.bmod_def]
  omega
theorem own_cases17 {z p : Int32} (h : z = (p &&& (2147483647 : Int32)) % (17 : Int32)) : z = (0 : Int32) ∨ z = (1 : Int32) ∨ z = (2 : Int32) ∨ z = (3 : Int32) ∨ z = (4 : Int32) ∨ z = (5 : Int32) ∨ z = (6 : Int32) ∨ z = (7 : Int32) ∨ z = (8 : Int32) ∨ z = (9 : Int32) ∨ z = (10 : Int32) ∨ z = (11 : Int32) ∨ z = (12 : Int32) ∨ z = (13 : Int32) ∨ z = (14 : Int32) ∨ z = (15 : Int32) ∨ z = (16 : Int32) := by
  have e1 : (p &&& (2147483647 : Int32)).toInt = p.toInt % 2 ^ 31 := own_mask p
  have e2 : z.toInt = (p.toInt % 2 ^ 31) % 17 := by
    rw [h, Int32.toInt_mod, e1, show (17 : Int32).toInt = 17 from by decide, Int.tmod_eq_emod_of_nonneg (Int.emod_nonneg _ (by decide))]
  have e3 : 0 ≤ z.toInt ∧ z.toInt < 17 := by rw [e2]; exact ⟨Int.emod_nonneg _ (by decide), Int.emod_lt_of_pos _ (by decide)⟩
  have k : ∀ {c : Int32} {k : Int}, c.toInt = k → z.toInt = k → z = c := fun h1 h2 => Int32.toInt_inj.mp (h2.trans h1.symm)
  have e4 : z.toInt = 0 ∨ z.toInt = 1 ∨ z.toInt = 2 ∨ z.toInt = 3 ∨ z.toInt = 4 ∨ z.toInt = 5 ∨ z.toInt = 6 ∨ z.toInt = 7 ∨ z.toInt = 8 ∨ z.toInt = 9 ∨ z.toInt = 10 ∨ z.toInt = 11 ∨ z.toInt = 12 ∨ z.toInt = 13 ∨ z.toInt = 14 ∨ z.toInt = 15 ∨ z.toInt = 16 := by omega
  rcases e4 with e | e | e | e | e | e | e | e | e | e | e | e | e | e | e | e | e
  · exact Or.inl (k (by decide) e)
  · exact Or.inr (Or.inl (k (by decide) e))
  · exact Or.inr (Or.inr (Or.inl (k (by decide) e)))
  · exact Or.inr (Or.inr (Or.inr (Or.inl (k (by decide) e))))
  · exact Or.inr (Or.inr (Or.inr (Or.inr (Or.inl (k (by decide) e)))))
  · exact Or.inr (Or.inr (Or.inr (Or.inr (Or.inr (Or.inl (k (by decide) e))))))
  · exact Or.inr (Or.inr (Or.inr (Or.inr (Or.inr (Or.inr (Or.inl (k (by decide) e)))))))
  · exact Or.inr (Or.inr (Or.inr (Or.inr (Or.inr (Or.inr (Or.inr (Or.inl (k (by decide) e))))))))
  · exact Or.inr (Or.inr (Or.inr (Or.inr (Or.inr (Or.inr (Or.inr (Or.inr (Or.inl (k (by decide) e)))))))))
  · exact Or.inr (Or.inr (Or.inr (Or.inr (Or.inr (Or.inr (Or.inr (Or.inr (Or.inr (Or.inl (k (by decide) e))))))))))
  · exact Or.inr (Or.inr (Or.inr (Or.inr (Or.inr (Or.inr (Or.inr (Or.inr (Or.inr (Or.inr (Or.inl (k (by decide) e)))))))))))
  · exact Or.inr (Or.inr (Or.inr (Or.inr (Or.inr (Or.inr (Or.inr (Or.inr (Or.inr (Or.inr (Or.inr (Or.inl (k (by decide) e))))))))))))
  · exact Or.inr (Or.inr (Or.inr (Or.inr (Or.inr (Or.inr (Or.inr (Or.inr (Or.inr (Or.inr (Or.inr (Or.inr (Or.inl (k (by decide) e)))))))))))))
  · exact Or.inr (Or.inr (Or.inr (Or.inr (Or.inr (Or.inr (Or.inr (Or.inr (Or.inr (Or.inr (Or.inr (Or.inr (Or.inr (Or.inl (k (by decide) e))))))))))))))
  · exact Or.inr (Or.inr (Or.inr (Or.inr (Or.inr (Or.inr (Or.inr (Or.inr (Or.inr (Or.inr (Or.inr (Or.inr (Or.inr (Or.inr (Or.inl (k (by decide) e)))))))))))))))
  · exact Or.inr (Or.inr (Or.inr (Or.inr (Or.inr (Or.inr (Or.inr (Or.inr (Or.inr (Or.inr (Or.inr (Or.inr (Or.inr (Or.inr (Or.inr (Or.inl (k (by decide) e))))))))))))))))
  · exact Or.inr (Or.inr (Or.inr (Or.inr (Or.inr (Or.inr (Or.inr (Or.inr (Or.inr (Or.inr (Or.inr (Or.inr (Or.inr (Or.inr (Or.inr (Or.inr ((k (by decide) e)))))))))))))))))
def World (Z : State) (h : Heap) (wPRODUCE : Addr) (wFETCH : Addr) (wLIST_OFFSETS : Addr) (wMETADATA : Addr) (wOFFSET_COMMIT : Addr) (wOFFSET_FETCH : Addr) (wFIND_COORDINATOR : Addr) (wJOIN_GROUP : Addr) (wHEARTBEAT : Addr) (wLEAVE_GROUP : Addr) (wSYNC_GROUP : Addr) (wAPI_VERSIONS : Addr) (wINIT_PRODUCER_ID : Addr) (wADD_PARTITIONS_TO_TXN : Addr) (wADD_OFFSETS_TO_TXN : Addr) (wEND_TXN : Addr) (wTXN_OFFSET_COMMIT : Addr) : Prop := Sta Z h "com/example/idem_log/idemlog/protocol/Api" "PRODUCE" "Lcom/example/idem_log/idemlog/protocol/Api;" (.ref wPRODUCE) ∧ Exa Z h wPRODUCE "com/example/idem_log/idemlog/protocol/Api" ∧ Sta Z h "com/example/idem_log/idemlog/protocol/Api" "FETCH" "Lcom/example/idem_log/idemlog/protocol/Api;" (.ref wFETCH) ∧ Exa Z h wFETCH "com/example/idem_log/idemlog/protocol/Api" ∧ Sta Z h "com/example/idem_log/idemlog/protocol/Api" "LIST_OFFSETS" "Lcom/example/idem_log/idemlog/protocol/Api;" (.ref wLIST_OFFSETS) ∧ Exa Z h wLIST_OFFSETS "com/example/idem_log/idemlog/protocol/Api" ∧ Sta Z h "com/example/idem_log/idemlog/protocol/Api" "METADATA" "Lcom/example/idem_log/idemlog/protocol/Api;" (.ref wMETADATA) ∧ Exa Z h wMETADATA "com/example/idem_log/idemlog/protocol/Api" ∧ Sta Z h "com/example/idem_log/idemlog/protocol/Api" "OFFSET_COMMIT" "Lcom/example/idem_log/idemlog/protocol/Api;" (.ref wOFFSET_COMMIT) ∧ Exa Z h wOFFSET_COMMIT "com/example/idem_log/idemlog/protocol/Api" ∧ Sta Z h "com/example/idem_log/idemlog/protocol/Api" "OFFSET_FETCH" "Lcom/example/idem_log/idemlog/protocol/Api;" (.ref wOFFSET_FETCH) ∧ Exa Z h wOFFSET_FETCH "com/example/idem_log/idemlog/protocol/Api" ∧ Sta Z h "com/example/idem_log/idemlog/protocol/Api" "FIND_COORDINATOR" "Lcom/example/idem_log/idemlog/protocol/Api;" (.ref wFIND_COORDINATOR) ∧ Exa Z h wFIND_COORDINATOR "com/example/idem_log/idemlog/protocol/Api" ∧ Sta Z h "com/example/idem_log/idemlog/protocol/Api" "JOIN_GROUP" "Lcom/example/idem_log/idemlog/protocol/Api;" (.ref wJOIN_GROUP) ∧ Exa Z h wJOIN_GROUP "com/example/idem_log/idemlog/protocol/Api" ∧ Sta Z h "com/example/idem_log/idemlog/protocol/Api" "HEARTBEAT" "Lcom/example/idem_log/idemlog/protocol/Api;" (.ref wHEARTBEAT) ∧ Exa Z h wHEARTBEAT "com/example/idem_log/idemlog/protocol/Api" ∧ Sta Z h "com/example/idem_log/idemlog/protocol/Api" "LEAVE_GROUP" "Lcom/example/idem_log/idemlog/protocol/Api;" (.ref wLEAVE_GROUP) ∧ Exa Z h wLEAVE_GROUP "com/example/idem_log/idemlog/protocol/Api" ∧ Sta Z h "com/example/idem_log/idemlog/protocol/Api" "SYNC_GROUP" "Lcom/example/idem_log/idemlog/protocol/Api;" (.ref wSYNC_GROUP) ∧ Exa Z h wSYNC_GROUP "com/example/idem_log/idemlog/protocol/Api" ∧ Sta Z h "com/example/idem_log/idemlog/protocol/Api" "API_VERSIONS" "Lcom/example/idem_log/idemlog/protocol/Api;" (.ref wAPI_VERSIONS) ∧ Exa Z h wAPI_VERSIONS "com/example/idem_log/idemlog/protocol/Api" ∧ Sta Z h "com/example/idem_log/idemlog/protocol/Api" "INIT_PRODUCER_ID" "Lcom/example/idem_log/idemlog/protocol/Api;" (.ref wINIT_PRODUCER_ID) ∧ Exa Z h wINIT_PRODUCER_ID "com/example/idem_log/idemlog/protocol/Api" ∧ Sta Z h "com/example/idem_log/idemlog/protocol/Api" "ADD_PARTITIONS_TO_TXN" "Lcom/example/idem_log/idemlog/protocol/Api;" (.ref wADD_PARTITIONS_TO_TXN) ∧ Exa Z h wADD_PARTITIONS_TO_TXN "com/example/idem_log/idemlog/protocol/Api" ∧ Sta Z h "com/example/idem_log/idemlog/protocol/Api" "ADD_OFFSETS_TO_TXN" "Lcom/example/idem_log/idemlog/protocol/Api;" (.ref wADD_OFFSETS_TO_TXN) ∧ Exa Z h wADD_OFFSETS_TO_TXN "com/example/idem_log/idemlog/protocol/Api" ∧ Sta Z h "com/example/idem_log/idemlog/protocol/Api" "END_TXN" "Lcom/example/idem_log/idemlog/protocol/Api;" (.ref wEND_TXN) ∧ Exa Z h wEND_TXN "com/example/idem_log/idemlog/protocol/Api" ∧ Sta Z h "com/example/idem_log/idemlog/protocol/Api" "TXN_OFFSET_COMMIT" "Lcom/example/idem_log/idemlog/protocol/Api;" (.ref wTXN_OFFSET_COMMIT) ∧ Exa Z h wTXN_OFFSET_COMMIT "com/example/idem_log/idemlog/protocol/Api" ∧ Fld Z h wPRODUCE "com/example/idem_log/idemlog/protocol/Api" "minVersion" "S" (.int (3 : Int32)) ∧ Fld Z h wPRODUCE "com/example/idem_log/idemlog/protocol/Api" "maxVersion" "S" (.int (7 : Int32)) ∧ Fld Z h wFETCH "com/example/idem_log/idemlog/protocol/Api" "minVersion" "S" (.int (4 : Int32)) ∧ Fld Z h wAPI_VERSIONS "com/example/idem_log/idemlog/protocol/Api" "minVersion" "S" (.int (3 : Int32)) ∧ Fld Z h wAPI_VERSIONS "com/example/idem_log/idemlog/protocol/Api" "maxVersion" "S" (.int (3 : Int32)) ∧ Fld Z h wHEARTBEAT "com/example/idem_log/idemlog/protocol/Api" "minVersion" "S" (.int (3 : Int32)) ∧ Fld Z h wINIT_PRODUCER_ID "com/example/idem_log/idemlog/protocol/Api" "minVersion" "S" (.int (0 : Int32)) ∧ Fld Z h wHEARTBEAT "com/example/idem_log/idemlog/protocol/Api" "maxVersion" "S" (.int (3 : Int32)) ∧ Fld Z h wADD_PARTITIONS_TO_TXN "com/example/idem_log/idemlog/protocol/Api" "minVersion" "S" (.int (0 : Int32)) ∧ Fld Z h wADD_PARTITIONS_TO_TXN "com/example/idem_log/idemlog/protocol/Api" "maxVersion" "S" (.int (0 : Int32)) ∧ Fld Z h wMETADATA "com/example/idem_log/idemlog/protocol/Api" "minVersion" "S" (.int (4 : Int32)) ∧ Fld Z h wSYNC_GROUP "com/example/idem_log/idemlog/protocol/Api" "minVersion" "S" (.int (3 : Int32)) ∧ Fld Z h wSYNC_GROUP "com/example/idem_log/idemlog/protocol/Api" "maxVersion" "S" (.int (3 : Int32)) ∧ Fld Z h wTXN_OFFSET_COMMIT "com/example/idem_log/idemlog/protocol/Api" "minVersion" "S" (.int (3 : Int32)) ∧ Fld Z h wTXN_OFFSET_COMMIT "com/example/idem_log/idemlog/protocol/Api" "maxVersion" "S" (.int (3 : Int32)) ∧ Fld Z h wFETCH "com/example/idem_log/idemlog/protocol/Api" "maxVersion" "S" (.int (11 : Int32)) ∧ Fld Z h wJOIN_GROUP "com/example/idem_log/idemlog/protocol/Api" "minVersion" "S" (.int (5 : Int32)) ∧ Fld Z h wLIST_OFFSETS "com/example/idem_log/idemlog/protocol/Api" "minVersion" "S" (.int (2 : Int32)) ∧ Fld Z h wLIST_OFFSETS "com/example/idem_log/idemlog/protocol/Api" "maxVersion" "S" (.int (2 : Int32)) ∧ Fld Z h wOFFSET_COMMIT "com/example/idem_log/idemlog/protocol/Api" "minVersion" "S" (.int (7 : Int32)) ∧ Fld Z h wOFFSET_COMMIT "com/example/idem_log/idemlog/protocol/Api" "maxVersion" "S" (.int (7 : Int32)) ∧ Fld Z h wOFFSET_FETCH "com/example/idem_log/idemlog/protocol/Api" "minVersion" "S" (.int (7 : Int32)) ∧ Fld Z h wOFFSET_FETCH "com/example/idem_log/idemlog/protocol/Api" "maxVersion" "S" (.int (7 : Int32)) ∧ Fld Z h wADD_OFFSETS_TO_TXN "com/example/idem_log/idemlog/protocol/Api" "minVersion" "S" (.int (0 : Int32)) ∧ Fld Z h wADD_OFFSETS_TO_TXN "com/example/idem_log/idemlog/protocol/Api" "maxVersion" "S" (.int (0 : Int32)) ∧ Fld Z h wFIND_COORDINATOR "com/example/idem_log/idemlog/protocol/Api" "minVersion" "S" (.int (0 : Int32)) ∧ Fld Z h wFIND_COORDINATOR "com/example/idem_log/idemlog/protocol/Api" "maxVersion" "S" (.int (2 : Int32)) ∧ Fld Z h wLEAVE_GROUP "com/example/idem_log/idemlog/protocol/Api" "minVersion" "S" (.int (1 : Int32)) ∧ Fld Z h wLEAVE_GROUP "com/example/idem_log/idemlog/protocol/Api" "maxVersion" "S" (.int (1 : Int32)) ∧ Fld Z h wJOIN_GROUP "com/example/idem_log/idemlog/protocol/Api" "maxVersion" "S" (.int (5 : Int32)) ∧ Fld Z h wEND_TXN "com/example/idem_log/idemlog/protocol/Api" "minVersion" "S" (.int (1 : Int32)) ∧ Fld Z h wEND_TXN "com/example/idem_log/idemlog/protocol/Api" "maxVersion" "S" (.int (1 : Int32)) ∧ Fld Z h wMETADATA "com/example/idem_log/idemlog/protocol/Api" "maxVersion" "S" (.int (4 : Int32)) ∧ Fld Z h wINIT_PRODUCER_ID "com/example/idem_log/idemlog/protocol/Api" "maxVersion" "S" (.int (4 : Int32)) ∧ True
theorem World.ext {Z : State} {h h' : Heap} {wPRODUCE : Addr} {wFETCH : Addr} {wLIST_OFFSETS : Addr} {wMETADATA : Addr} {wOFFSET_COMMIT : Addr} {wOFFSET_FETCH : Addr} {wFIND_COORDINATOR : Addr} {wJOIN_GROUP : Addr} {wHEARTBEAT : Addr} {wLEAVE_GROUP : Addr} {wSYNC_GROUP : Addr} {wAPI_VERSIONS : Addr} {wINIT_PRODUCER_ID : Addr} {wADD_PARTITIONS_TO_TXN : Addr} {wADD_OFFSETS_TO_TXN : Addr} {wEND_TXN : Addr} {wTXN_OFFSET_COMMIT : Addr} (W : World Z h wPRODUCE wFETCH wLIST_OFFSETS wMETADATA wOFFSET_COMMIT wOFFSET_FETCH wFIND_COORDINATOR wJOIN_GROUP wHEARTBEAT wLEAVE_GROUP wSYNC_GROUP wAPI_VERSIONS wINIT_PRODUCER_ID wADD_PARTITIONS_TO_TXN wADD_OFFSETS_TO_TXN wEND_TXN wTXN_OFFSET_COMMIT) (E : Ext h h') : World Z h' wPRODUCE wFETCH wLIST_OFFSETS wMETADATA wOFFSET_COMMIT wOFFSET_FETCH wFIND_COORDINATOR wJOIN_GROUP wHEARTBEAT wLEAVE_GROUP wSYNC_GROUP wAPI_VERSIONS wINIT_PRODUCER_ID wADD_PARTITIONS_TO_TXN wADD_OFFSETS_TO_TXN wEND_TXN wTXN_OFFSET_COMMIT := by
  obtain ⟨SPRODUCE, EPRODUCE, SFETCH, EFETCH, SLIST_OFFSETS, ELIST_OFFSETS, SMETADATA, EMETADATA, SOFFSET_COMMIT, EOFFSET_COMMIT, SOFFSET_FETCH, EOFFSET_FETCH, SFIND_COORDINATOR, EFIND_COORDINATOR, SJOIN_GROUP, EJOIN_GROUP, SHEARTBEAT, EHEARTBEAT, SLEAVE_GROUP, ELEAVE_GROUP, SSYNC_GROUP, ESYNC_GROUP, SAPI_VERSIONS, EAPI_VERSIONS, SINIT_PRODUCER_ID, EINIT_PRODUCER_ID, SADD_PARTITIONS_TO_TXN, EADD_PARTITIONS_TO_TXN, SADD_OFFSETS_TO_TXN, EADD_OFFSETS_TO_TXN, SEND_TXN, EEND_TXN, STXN_OFFSET_COMMIT, ETXN_OFFSET_COMMIT, FPRODUCE_minVersion, FPRODUCE_maxVersion, FFETCH_minVersion, FAPI_VERSIONS_minVersion, FAPI_VERSIONS_maxVersion, FHEARTBEAT_minVersion, FINIT_PRODUCER_ID_minVersion, FHEARTBEAT_maxVersion, FADD_PARTITIONS_TO_TXN_minVersion, FADD_PARTITIONS_TO_TXN_maxVersion, FMETADATA_minVersion, FSYNC_GROUP_minVersion, FSYNC_GROUP_maxVersion, FTXN_OFFSET_COMMIT_minVersion, FTXN_OFFSET_COMMIT_maxVersion, FFETCH_maxVersion, FJOIN_GROUP_minVersion, FLIST_OFFSETS_minVersion, FLIST_OFFSETS_maxVersion, FOFFSET_COMMIT_minVersion, FOFFSET_COMMIT_maxVersion, FOFFSET_FETCH_minVersion, FOFFSET_FETCH_maxVersion, FADD_OFFSETS_TO_TXN_minVersion, FADD_OFFSETS_TO_TXN_maxVersion, FFIND_COORDINATOR_minVersion, FFIND_COORDINATOR_maxVersion, FLEAVE_GROUP_minVersion, FLEAVE_GROUP_maxVersion, FJOIN_GROUP_maxVersion, FEND_TXN_minVersion, FEND_TXN_maxVersion, FMETADATA_maxVersion, FINIT_PRODUCER_ID_maxVersion, -⟩ := W
  exact ⟨SPRODUCE.ext E, EPRODUCE.ext E, SFETCH.ext E, EFETCH.ext E, SLIST_OFFSETS.ext E, ELIST_OFFSETS.ext E, SMETADATA.ext E, EMETADATA.ext E, SOFFSET_COMMIT.ext E, EOFFSET_COMMIT.ext E, SOFFSET_FETCH.ext E, EOFFSET_FETCH.ext E, SFIND_COORDINATOR.ext E, EFIND_COORDINATOR.ext E, SJOIN_GROUP.ext E, EJOIN_GROUP.ext E, SHEARTBEAT.ext E, EHEARTBEAT.ext E, SLEAVE_GROUP.ext E, ELEAVE_GROUP.ext E, SSYNC_GROUP.ext E, ESYNC_GROUP.ext E, SAPI_VERSIONS.ext E, EAPI_VERSIONS.ext E, SINIT_PRODUCER_ID.ext E, EINIT_PRODUCER_ID.ext E, SADD_PARTITIONS_TO_TXN.ext E, EADD_PARTITIONS_TO_TXN.ext E, SADD_OFFSETS_TO_TXN.ext E, EADD_OFFSETS_TO_TXN.ext E, SEND_TXN.ext E, EEND_TXN.ext E, STXN_OFFSET_COMMIT.ext E, ETXN_OFFSET_COMMIT.ext E, FPRODUCE_minVersion.ext E, FPRODUCE_maxVersion.ext E, FFETCH_minVersion.ext E, FAPI_VERSIONS_minVersion.ext E, FAPI_VERSIONS_maxVersion.ext E, FHEARTBEAT_minVersion.ext E, FINIT_PRODUCER_ID_minVersion.ext E, FHEARTBEAT_maxVersion.ext E, FADD_PARTITIONS_TO_TXN_minVersion.ext E, FADD_PARTITIONS_TO_TXN_maxVersion.ext E, FMETADATA_minVersion.ext E, FSYNC_GROUP_minVersion.ext E, FSYNC_GROUP_maxVersion.ext E, FTXN_OFFSET_COMMIT_minVersion.ext E, FTXN_OFFSET_COMMIT_maxVersion.ext E, FFETCH_maxVersion.ext E, FJOIN_GROUP_minVersion.ext E, FLIST_OFFSETS_minVersion.ext E, FLIST_OFFSETS_maxVersion.ext E, FOFFSET_COMMIT_minVersion.ext E, FOFFSET_COMMIT_maxVersion.ext E, FOFFSET_FETCH_minVersion.ext E, FOFFSET_FETCH_maxVersion.ext E, FADD_OFFSETS_TO_TXN_minVersion.ext E, FADD_OFFSETS_TO_TXN_maxVersion.ext E, FFIND_COORDINATOR_minVersion.ext E, FFIND_COORDINATOR_maxVersion.ext E, FLEAVE_GROUP_minVersion.ext E, FLEAVE_GROUP_maxVersion.ext E, FJOIN_GROUP_maxVersion.ext E, FEND_TXN_minVersion.ext E, FEND_TXN_maxVersion.ext E, FMETADATA_maxVersion.ext E, FINIT_PRODUCER_ID_maxVersion.ext E, trivial⟩
theorem d1_0 : decode prog_15_method_5_code 0 = .ok (.iload_n 1, 1) := by decide +kernel
theorem d1_1 : decode prog_15_method_5_code 1 = .ok (.aload_n 0, 1) := by decide +kernel
theorem d1_2 : decode prog_15_method_5_code 2 = .ok (.getfield 78, 3) := by decide +kernel
theorem d1_5 : decode prog_15_method_5_code 5 = .ok (.if_icmp .lt 15, 3) := by decide +kernel
theorem d1_20 : decode prog_15_method_5_code 20 = .ok (.iconst 0, 1) := by decide +kernel
theorem d1_21 : decode prog_15_method_5_code 21 = .ok (.ireturn, 1) := by decide +kernel
theorem d1_8 : decode prog_15_method_5_code 8 = .ok (.iload_n 1, 1) := by decide +kernel
theorem d1_9 : decode prog_15_method_5_code 9 = .ok (.aload_n 0, 1) := by decide +kernel
theorem d1_10 : decode prog_15_method_5_code 10 = .ok (.getfield 81, 3) := by decide +kernel
theorem d1_13 : decode prog_15_method_5_code 13 = .ok (.if_icmp .gt 7, 3) := by decide +kernel
theorem d1_16 : decode prog_15_method_5_code 16 = .ok (.iconst 1, 1) := by decide +kernel
theorem d1_17 : decode prog_15_method_5_code 17 = .ok (.goto 4, 3) := by decide +kernel
theorem pn_0 : plainName "com/example/idem_log/idemlog/protocol/Api" = true := by first | (simp [plainName, overriddenIn]; done) | decide +kernel
def f1 (p0 : Addr) (p1 : Int32) (u_p0_minVersion : Int32) (u_p0_maxVersion : Int32) : Int32 := if p1 < u_p0_minVersion then (0 : Int32) else if u_p0_maxVersion < p1 then (0 : Int32) else (1 : Int32)
theorem ef_1 (m : MethodId) (p0 : Addr) (p1 : Int32) : entryFrame m #[(.ref p0), (.int p1)] 2 = mkF m 0 #[.val (.ref p0), .val (.int p1)] [] := by first | (simp [entryFrame, mkF, argsToLocals, Value.category]; done) | rfl
def Q1 (Z : State) (p0 : Addr) (p1 : Int32) (u_p0_minVersion : Int32) (u_p0_maxVersion : Int32) (h0 : Heap) (n0 : Nat) (v : Option Value) (h : Heap) (L : List Loc) : Prop := v = some (.int (f1 p0 p1 u_p0_minVersion u_p0_maxVersion)) ∧ Fr n0 L ∧ h = h0
set_option maxRecDepth 65536 in
set_option maxHeartbeats 40000000 in
theorem rm1 (l : Launch) (Z : State) (a0 : Array Value) (hw : ∀ d ∈ tables_1, d.before a0 Z = true) (ws : List Jvm.Cond) (p0 : Addr) (p1 : Int32) (u_p0_minVersion : Int32) (u_p0_maxVersion : Int32) (h0 : Heap) (n0 : Nat) (Z0 : n0 ≤ h0.size) (G_p0_minVersion : Fld Z h0 p0 "com/example/idem_log/idemlog/protocol/Api" "minVersion" "S" (.int u_p0_minVersion)) (G_p0_maxVersion : Fld Z h0 p0 "com/example/idem_log/idemlog/protocol/Api" "maxVersion" "S" (.int u_p0_maxVersion)) :
    MetFree l (⟨"com/example/idem_log/idemlog/protocol/Api", "serves", "(S)Z"⟩ : MethodName) (head1 (Jvm.Cond.code (⟨"com/example/idem_log/idemlog/protocol/Api", "serves", "(S)Z"⟩ : MethodName) prog_15_method_5_code 2 (some .boolean) :: ws) ({ frames := 0, cells := 0, slots := 0, locals := 0 } : Room)) (fun a U => a = #[(.ref p0), (.int p1)] ∧ Z.Warmed39 U.vm ∧ U.heap = h0) (fun _ _ _ _ _ => True) (fun _ U o U' => ∃ v L, o = .returned v ∧ Q1 Z p0 p1 u_p0_minVersion u_p0_maxVersion h0 n0 v U'.heap L ∧ FrameEnd U o U' L ({ frames := 0, cells := 0, slots := 0, locals := 0 } : Room).cells ({ frames := 0, cells := 0, slots := 0, locals := 0 } : Room).slots) := by
  refine MetFree.of_bodySF (plainFor_of_name pn_0) hisR ?_
  intro p e s m args below meth c s₁ Bd hml0 hP hK
  obtain ⟨rfl, hZ, hh⟩ := hP
  have hx := Bd.exec
  have hby := Bd.bytes
  have hml : c.maxLocals = 2 := hml0
  have hown : s.vm.findClass "com/example/idem_log/idemlog/protocol/Api" = some m.cls := findClass_of_methodNamed Bd.named
  have X0 : Stand p l e ({ frames := 0, cells := 0, slots := 0, locals := 0 } : Room) s m #[(.ref p0), (.int p1)] below meth c s₁ [] 0 0 := Stand.of_body Bd
  have e0 : s₁.heap = h0 := by rw [← hh, Bd.state]; rfl
  have N0 := Fr.nil n0
  have pre0 : ∀ t, Steps p.tables e below (s₁.setTop (mkF m 0 #[.val (.ref p0), .val (.int p1)] [])) t → Steps p.tables e below (s₁.setTop (entryFrame m #[(.ref p0), (.int p1)] 2)) t := fun t k => castTop (ef_1 m p0 p1) k
  obtain ⟨T1, X1, e1, st1⟩ := getF X0 hx hZ hown (host := "") (Or.inl (hw _ (List.mem_of_getElem? (i := 45) rfl))) Via.refl e0 G_p0_minVersion (g := (mkF m 2 #[.val (.ref p0), .val (.int p1)] [(.ref p0), (.int p1)])) rfl rfl (hb hby d1_2)
  have k2 : ∀ t, Steps p.tables e below (T1.setTop (mkF m 5 #[.val (.ref p0), .val (.int p1)] [(.int u_p0_minVersion), (.int p1)])) t → Steps p.tables e below (s₁.setTop (entryFrame m #[(.ref p0), (.int p1)] 2)) t := fun t kt => pre0 t (by
    show Steps p.tables e below (s₁.setTop (mkF m 0 #[.val (.ref p0), .val (.int p1)] [])) _
    refine XS.iloadN X0.here hx rfl (hb hby d1_0) rfl ?_
    show Steps p.tables e below (s₁.setTop (mkF m 1 #[.val (.ref p0), .val (.int p1)] [(.int p1)])) _
    refine XS.aloadN X0.here hx rfl (hb hby d1_1) rfl rfl ?_
    show Steps p.tables e below (s₁.setTop (mkF m 2 #[.val (.ref p0), .val (.int p1)] [(.ref p0), (.int p1)])) _
    refine st1 _ ?_
    exact kt)
  by_cases hc3 : p1 < u_p0_minVersion
  · obtain ⟨fs, hr, hrun, hended, hW, hsame⟩ := X1.leave (v := some (.int (0 : Int32))) (fun h => by rw [Bd.returns] at h; cases h)
    refine ⟨_, _, k2 _ ?_, hrun, hended, _, _, rfl, ?_, ⟨_, rfl⟩, hW, hsame.mono (by decide) (by decide)⟩
    · show Steps p.tables e below (T1.setTop (mkF m 5 #[.val (.ref p0), .val (.int p1)] [(.int u_p0_minVersion), (.int p1)])) _
      refine XS.icmpYes X1.here hx rfl (pc0 := 5) (pc' := 20) rfl (hb hby d1_5) rfl (tlt (hc3 : p1 < u_p0_minVersion)).1 (by decide) (by decide) ?_
      show Steps p.tables e below (T1.setTop (mkF m 20 #[.val (.ref p0), .val (.int p1)] [])) _
      refine XS.iconst X1.here hx rfl (hb hby d1_20) ?_
      show Steps p.tables e below (T1.setTop (mkF m 21 #[.val (.ref p0), .val (.int p1)] [(.int (0 : Int32))])) _
      exact retN X1 hx (t := .boolean) Bd.returns (by simp) (hb hby d1_21) hr
    · show Q1 Z p0 p1 u_p0_minVersion u_p0_maxVersion h0 n0 _ T1.heap _
      rw [e1]
      exact ⟨by rw [f1, if_pos hc3], N0, rfl⟩
  · obtain ⟨T4, X4, e4, st4⟩ := getF X1 hx hZ hown (host := "") (Or.inl (hw _ (List.mem_of_getElem? (i := 47) rfl))) Via.refl e1 G_p0_maxVersion (g := (mkF m 10 #[.val (.ref p0), .val (.int p1)] [(.ref p0), (.int p1)])) rfl rfl (hb hby d1_10)
    have k5 : ∀ t, Steps p.tables e below (T4.setTop (mkF m 13 #[.val (.ref p0), .val (.int p1)] [(.int u_p0_maxVersion), (.int p1)])) t → Steps p.tables e below (s₁.setTop (entryFrame m #[(.ref p0), (.int p1)] 2)) t := fun t kt => k2 t (by
      show Steps p.tables e below (T1.setTop (mkF m 5 #[.val (.ref p0), .val (.int p1)] [(.int u_p0_minVersion), (.int p1)])) _
      refine XS.icmpNo X1.here hx rfl (hb hby d1_5) rfl (flt (hc3 : ¬ (p1 < u_p0_minVersion))).1 ?_
      show Steps p.tables e below (T1.setTop (mkF m 8 #[.val (.ref p0), .val (.int p1)] [])) _
      refine XS.iloadN X1.here hx rfl (hb hby d1_8) rfl ?_
      show Steps p.tables e below (T1.setTop (mkF m 9 #[.val (.ref p0), .val (.int p1)] [(.int p1)])) _
      refine XS.aloadN X1.here hx rfl (hb hby d1_9) rfl rfl ?_
      show Steps p.tables e below (T1.setTop (mkF m 10 #[.val (.ref p0), .val (.int p1)] [(.ref p0), (.int p1)])) _
      refine st4 _ ?_
      exact kt)
    by_cases hc6 : u_p0_maxVersion < p1
    · obtain ⟨fs, hr, hrun, hended, hW, hsame⟩ := X4.leave (v := some (.int (0 : Int32))) (fun h => by rw [Bd.returns] at h; cases h)
      refine ⟨_, _, k5 _ ?_, hrun, hended, _, _, rfl, ?_, ⟨_, rfl⟩, hW, hsame.mono (by decide) (by decide)⟩
      · show Steps p.tables e below (T4.setTop (mkF m 13 #[.val (.ref p0), .val (.int p1)] [(.int u_p0_maxVersion), (.int p1)])) _
        refine XS.icmpYes X4.here hx rfl (pc0 := 13) (pc' := 20) rfl (hb hby d1_13) rfl (tlt (hc6 : u_p0_maxVersion < p1)).2.2.1 (by decide) (by decide) ?_
        show Steps p.tables e below (T4.setTop (mkF m 20 #[.val (.ref p0), .val (.int p1)] [])) _
        refine XS.iconst X4.here hx rfl (hb hby d1_20) ?_
        show Steps p.tables e below (T4.setTop (mkF m 21 #[.val (.ref p0), .val (.int p1)] [(.int (0 : Int32))])) _
        exact retN X4 hx (t := .boolean) Bd.returns (by simp) (hb hby d1_21) hr
      · show Q1 Z p0 p1 u_p0_minVersion u_p0_maxVersion h0 n0 _ T4.heap _
        rw [e4]
        exact ⟨by rw [f1, if_neg hc3, if_pos hc6], N0, rfl⟩
    · obtain ⟨fs, hr, hrun, hended, hW, hsame⟩ := X4.leave (v := some (.int (1 : Int32))) (fun h => by rw [Bd.returns] at h; cases h)
      refine ⟨_, _, k5 _ ?_, hrun, hended, _, _, rfl, ?_, ⟨_, rfl⟩, hW, hsame.mono (by decide) (by decide)⟩
      · show Steps p.tables e below (T4.setTop (mkF m 13 #[.val (.ref p0), .val (.int p1)] [(.int u_p0_maxVersion), (.int p1)])) _
        refine XS.icmpNo X4.here hx rfl (hb hby d1_13) rfl (flt (hc6 : ¬ (u_p0_maxVersion < p1))).2.2.1 ?_
        show Steps p.tables e below (T4.setTop (mkF m 16 #[.val (.ref p0), .val (.int p1)] [])) _
        refine XS.iconst X4.here hx rfl (hb hby d1_16) ?_
        show Steps p.tables e below (T4.setTop (mkF m 17 #[.val (.ref p0), .val (.int p1)] [(.int (1 : Int32))])) _
        refine XS.goto X4.here hx rfl (pc0 := 17) (pc' := 21) rfl (hb hby d1_17) (by decide) (by decide) ?_
        show Steps p.tables e below (T4.setTop (mkF m 21 #[.val (.ref p0), .val (.int p1)] [(.int (1 : Int32))])) _
        exact retN X4 hx (t := .boolean) Bd.returns (by simp) (hb hby d1_21) hr
      · show Q1 Z p0 p1 u_p0_minVersion u_p0_maxVersion h0 n0 _ T4.heap _
        rw [e4]
        exact ⟨by rw [f1, if_neg hc3, if_neg hc6], N0, rfl⟩
set_option maxRecDepth 65536 in
theorem own_idx {Z : State} {h : Heap} {wPRODUCE : Addr} {wFETCH : Addr} {wLIST_OFFSETS : Addr} {wMETADATA : Addr} {wOFFSET_COMMIT : Addr} {wOFFSET_FETCH : Addr} {wFIND_COORDINATOR : Addr} {wJOIN_GROUP : Addr} {wHEARTBEAT : Addr} {wLEAVE_GROUP : Addr} {wSYNC_GROUP : Addr} {wAPI_VERSIONS : Addr} {wINIT_PRODUCER_ID : Addr} {wADD_PARTITIONS_TO_TXN : Addr} {wADD_OFFSETS_TO_TXN : Addr} {wEND_TXN : Addr} {wTXN_OFFSET_COMMIT : Addr} (W : World Z h wPRODUCE wFETCH wLIST_OFFSETS wMETADATA wOFFSET_COMMIT wOFFSET_FETCH wFIND_COORDINATOR wJOIN_GROUP wHEARTBEAT wLEAVE_GROUP wSYNC_GROUP wAPI_VERSIONS wINIT_PRODUCER_ID wADD_PARTITIONS_TO_TXN wADD_OFFSETS_TO_TXN wEND_TXN wTXN_OFFSET_COMMIT) {i p : Int32} (hi : i = (p &&& (2147483647 : Int32)) % (17 : Int32)) : ∃ (a : Addr) (lo hi : Int32), ([(.ref wPRODUCE), (.ref wFETCH), (.ref wLIST_OFFSETS), (.ref wMETADATA), (.ref wOFFSET_COMMIT), (.ref wOFFSET_FETCH), (.ref wFIND_COORDINATOR), (.ref wJOIN_GROUP), (.ref wHEARTBEAT), (.ref wLEAVE_GROUP), (.ref wSYNC_GROUP), (.ref wAPI_VERSIONS), (.ref wINIT_PRODUCER_ID), (.ref wADD_PARTITIONS_TO_TXN), (.ref wADD_OFFSETS_TO_TXN), (.ref wEND_TXN), (.ref wTXN_OFFSET_COMMIT)] : List Value).getD i.toNatClampNeg .null = .ref a ∧ ([(.int (3 : Int32)), (.int (4 : Int32)), (.int (2 : Int32)), (.int (4 : Int32)), (.int (7 : Int32)), (.int (7 : Int32)), (.int (0 : Int32)), (.int (5 : Int32)), (.int (3 : Int32)), (.int (1 : Int32)), (.int (3 : Int32)), (.int (3 : Int32)), (.int (0 : Int32)), (.int (0 : Int32)), (.int (0 : Int32)), (.int (1 : Int32)), (.int (3 : Int32))] : List Value).getD i.toNatClampNeg (.int (0 : Int32)) = .int lo ∧ ([(.int (7 : Int32)), (.int (11 : Int32)), (.int (2 : Int32)), (.int (4 : Int32)), (.int (7 : Int32)), (.int (7 : Int32)), (.int (2 : Int32)), (.int (5 : Int32)), (.int (3 : Int32)), (.int (1 : Int32)), (.int (3 : Int32)), (.int (3 : Int32)), (.int (4 : Int32)), (.int (0 : Int32)), (.int (0 : Int32)), (.int (1 : Int32)), (.int (3 : Int32))] : List Value).getD i.toNatClampNeg (.int (0 : Int32)) = .int hi ∧ Exa Z h a "com/example/idem_log/idemlog/protocol/Api" ∧ Fld Z h a "com/example/idem_log/idemlog/protocol/Api" "minVersion" "S" (.int lo) ∧ Fld Z h a "com/example/idem_log/idemlog/protocol/Api" "maxVersion" "S" (.int hi) ∧ ((lo - (1 : Int32)).toInt16.toInt32) = (lo - (1 : Int32)) ∧ (lo.toInt16.toInt32) = lo ∧ (hi.toInt16.toInt32) = hi ∧ ((hi + (1 : Int32)).toInt16.toInt32) = (hi + (1 : Int32)) ∧ ¬ i < 0 ∧ i < (17 : Int32) := by
  obtain ⟨SPRODUCE, EPRODUCE, SFETCH, EFETCH, SLIST_OFFSETS, ELIST_OFFSETS, SMETADATA, EMETADATA, SOFFSET_COMMIT, EOFFSET_COMMIT, SOFFSET_FETCH, EOFFSET_FETCH, SFIND_COORDINATOR, EFIND_COORDINATOR, SJOIN_GROUP, EJOIN_GROUP, SHEARTBEAT, EHEARTBEAT, SLEAVE_GROUP, ELEAVE_GROUP, SSYNC_GROUP, ESYNC_GROUP, SAPI_VERSIONS, EAPI_VERSIONS, SINIT_PRODUCER_ID, EINIT_PRODUCER_ID, SADD_PARTITIONS_TO_TXN, EADD_PARTITIONS_TO_TXN, SADD_OFFSETS_TO_TXN, EADD_OFFSETS_TO_TXN, SEND_TXN, EEND_TXN, STXN_OFFSET_COMMIT, ETXN_OFFSET_COMMIT, FPRODUCE_minVersion, FPRODUCE_maxVersion, FFETCH_minVersion, FAPI_VERSIONS_minVersion, FAPI_VERSIONS_maxVersion, FHEARTBEAT_minVersion, FINIT_PRODUCER_ID_minVersion, FHEARTBEAT_maxVersion, FADD_PARTITIONS_TO_TXN_minVersion, FADD_PARTITIONS_TO_TXN_maxVersion, FMETADATA_minVersion, FSYNC_GROUP_minVersion, FSYNC_GROUP_maxVersion, FTXN_OFFSET_COMMIT_minVersion, FTXN_OFFSET_COMMIT_maxVersion, FFETCH_maxVersion, FJOIN_GROUP_minVersion, FLIST_OFFSETS_minVersion, FLIST_OFFSETS_maxVersion, FOFFSET_COMMIT_minVersion, FOFFSET_COMMIT_maxVersion, FOFFSET_FETCH_minVersion, FOFFSET_FETCH_maxVersion, FADD_OFFSETS_TO_TXN_minVersion, FADD_OFFSETS_TO_TXN_maxVersion, FFIND_COORDINATOR_minVersion, FFIND_COORDINATOR_maxVersion, FLEAVE_GROUP_minVersion, FLEAVE_GROUP_maxVersion, FJOIN_GROUP_maxVersion, FEND_TXN_minVersion, FEND_TXN_maxVersion, FMETADATA_maxVersion, FINIT_PRODUCER_ID_maxVersion, -⟩ := W
  rcases own_cases17 hi with e | e | e | e | e | e | e | e | e | e | e | e | e | e | e | e | e
  · subst e; exact ⟨wPRODUCE, (3 : Int32), (7 : Int32), rfl, rfl, rfl, EPRODUCE, FPRODUCE_minVersion, FPRODUCE_maxVersion, by decide, by decide, by decide, by decide, by decide, by decide⟩
  · subst e; exact ⟨wFETCH, (4 : Int32), (11 : Int32), rfl, rfl, rfl, EFETCH, FFETCH_minVersion, FFETCH_maxVersion, by decide, by decide, by decide, by decide, by decide, by decide⟩
  · subst e; exact ⟨wLIST_OFFSETS, (2 : Int32), (2 : Int32), rfl, rfl, rfl, ELIST_OFFSETS, FLIST_OFFSETS_minVersion, FLIST_OFFSETS_maxVersion, by decide, by decide, by decide, by decide, by decide, by decide⟩
  · subst e; exact ⟨wMETADATA, (4 : Int32), (4 : Int32), rfl, rfl, rfl, EMETADATA, FMETADATA_minVersion, FMETADATA_maxVersion, by decide, by decide, by decide, by decide, by decide, by decide⟩
  · subst e; exact ⟨wOFFSET_COMMIT, (7 : Int32), (7 : Int32), rfl, rfl, rfl, EOFFSET_COMMIT, FOFFSET_COMMIT_minVersion, FOFFSET_COMMIT_maxVersion, by decide, by decide, by decide, by decide, by decide, by decide⟩
  · subst e; exact ⟨wOFFSET_FETCH, (7 : Int32), (7 : Int32), rfl, rfl, rfl, EOFFSET_FETCH, FOFFSET_FETCH_minVersion, FOFFSET_FETCH_maxVersion, by decide, by decide, by decide, by decide, by decide, by decide⟩
  · subst e; exact ⟨wFIND_COORDINATOR, (0 : Int32), (2 : Int32), rfl, rfl, rfl, EFIND_COORDINATOR, FFIND_COORDINATOR_minVersion, FFIND_COORDINATOR_maxVersion, by decide, by decide, by decide, by decide, by decide, by decide⟩
  · subst e; exact ⟨wJOIN_GROUP, (5 : Int32), (5 : Int32), rfl, rfl, rfl, EJOIN_GROUP, FJOIN_GROUP_minVersion, FJOIN_GROUP_maxVersion, by decide, by decide, by decide, by decide, by decide, by decide⟩
  · subst e; exact ⟨wHEARTBEAT, (3 : Int32), (3 : Int32), rfl, rfl, rfl, EHEARTBEAT, FHEARTBEAT_minVersion, FHEARTBEAT_maxVersion, by decide, by decide, by decide, by decide, by decide, by decide⟩
  · subst e; exact ⟨wLEAVE_GROUP, (1 : Int32), (1 : Int32), rfl, rfl, rfl, ELEAVE_GROUP, FLEAVE_GROUP_minVersion, FLEAVE_GROUP_maxVersion, by decide, by decide, by decide, by decide, by decide, by decide⟩
  · subst e; exact ⟨wSYNC_GROUP, (3 : Int32), (3 : Int32), rfl, rfl, rfl, ESYNC_GROUP, FSYNC_GROUP_minVersion, FSYNC_GROUP_maxVersion, by decide, by decide, by decide, by decide, by decide, by decide⟩
  · subst e; exact ⟨wAPI_VERSIONS, (3 : Int32), (3 : Int32), rfl, rfl, rfl, EAPI_VERSIONS, FAPI_VERSIONS_minVersion, FAPI_VERSIONS_maxVersion, by decide, by decide, by decide, by decide, by decide, by decide⟩
  · subst e; exact ⟨wINIT_PRODUCER_ID, (0 : Int32), (4 : Int32), rfl, rfl, rfl, EINIT_PRODUCER_ID, FINIT_PRODUCER_ID_minVersion, FINIT_PRODUCER_ID_maxVersion, by decide, by decide, by decide, by decide, by decide, by decide⟩
  · subst e; exact ⟨wADD_PARTITIONS_TO_TXN, (0 : Int32), (0 : Int32), rfl, rfl, rfl, EADD_PARTITIONS_TO_TXN, FADD_PARTITIONS_TO_TXN_minVersion, FADD_PARTITIONS_TO_TXN_maxVersion, by decide, by decide, by decide, by decide, by decide, by decide⟩
  · subst e; exact ⟨wADD_OFFSETS_TO_TXN, (0 : Int32), (0 : Int32), rfl, rfl, rfl, EADD_OFFSETS_TO_TXN, FADD_OFFSETS_TO_TXN_minVersion, FADD_OFFSETS_TO_TXN_maxVersion, by decide, by decide, by decide, by decide, by decide, by decide⟩
  · subst e; exact ⟨wEND_TXN, (1 : Int32), (1 : Int32), rfl, rfl, rfl, EEND_TXN, FEND_TXN_minVersion, FEND_TXN_maxVersion, by decide, by decide, by decide, by decide, by decide, by decide⟩
  · subst e; exact ⟨wTXN_OFFSET_COMMIT, (3 : Int32), (3 : Int32), rfl, rfl, rfl, ETXN_OFFSET_COMMIT, FTXN_OFFSET_COMMIT_minVersion, FTXN_OFFSET_COMMIT_maxVersion, by decide, by decide, by decide, by decide, by decide, by decide⟩
theorem pd_0 : parseMethodDescriptor "(S)Z" = some ⟨[.short], some .boolean⟩ := by decide +kernel
theorem pn_1 : plainName "com/example/idem_log/idemlog/protocol/ApiServesPinLaw" = true := by first | (simp [plainName, overriddenIn]; done) | decide +kernel
theorem ef_0 (m : MethodId) (p0 : Int32) (p1 : Int32) (p2 : Int32) : entryFrame m #[(.int p0), (.int p1), (.int p2)] maxLocals = mkF m 0 #[.val (.int p0), .val (.int p1), .val (.int p2), .unset, .unset, .unset, .unset, .unset, .unset, .unset, .unset] [] := by first | (simp [entryFrame, mkF, argsToLocals, Value.category, maxLocals]; done) | rfl
def Q0 (Z : State) (p0 : Int32) (p1 : Int32) (p2 : Int32) (wPRODUCE : Addr) (wFETCH : Addr) (wLIST_OFFSETS : Addr) (wMETADATA : Addr) (wOFFSET_COMMIT : Addr) (wOFFSET_FETCH : Addr) (wFIND_COORDINATOR : Addr) (wJOIN_GROUP : Addr) (wHEARTBEAT : Addr) (wLEAVE_GROUP : Addr) (wSYNC_GROUP : Addr) (wAPI_VERSIONS : Addr) (wINIT_PRODUCER_ID : Addr) (wADD_PARTITIONS_TO_TXN : Addr) (wADD_OFFSETS_TO_TXN : Addr) (wEND_TXN : Addr) (wTXN_OFFSET_COMMIT : Addr) (h0 : Heap) (n0 : Nat) (v : Option Value) (h : Heap) (L : List Loc) : Prop := v = some (.int 1) ∧ Fr n0 L
set_option maxRecDepth 65536 in
set_option maxHeartbeats 40000000 in
theorem rm0 (l : Launch) (Z : State) (a0 : Array Value) (hw : ∀ d ∈ tables_1, d.before a0 Z = true) (ws : List Jvm.Cond) (p0 : Int32) (p1 : Int32) (p2 : Int32) (wPRODUCE : Addr) (wFETCH : Addr) (wLIST_OFFSETS : Addr) (wMETADATA : Addr) (wOFFSET_COMMIT : Addr) (wOFFSET_FETCH : Addr) (wFIND_COORDINATOR : Addr) (wJOIN_GROUP : Addr) (wHEARTBEAT : Addr) (wLEAVE_GROUP : Addr) (wSYNC_GROUP : Addr) (wAPI_VERSIONS : Addr) (wINIT_PRODUCER_ID : Addr) (wADD_PARTITIONS_TO_TXN : Addr) (wADD_OFFSETS_TO_TXN : Addr) (wEND_TXN : Addr) (wTXN_OFFSET_COMMIT : Addr) (h0 : Heap) (n0 : Nat) (Z0 : n0 ≤ h0.size) (W0 : World Z h0 wPRODUCE wFETCH wLIST_OFFSETS wMETADATA wOFFSET_COMMIT wOFFSET_FETCH wFIND_COORDINATOR wJOIN_GROUP wHEARTBEAT wLEAVE_GROUP wSYNC_GROUP wAPI_VERSIONS wINIT_PRODUCER_ID wADD_PARTITIONS_TO_TXN wADD_OFFSETS_TO_TXN wEND_TXN wTXN_OFFSET_COMMIT) :
    MetFree l x (head1 (Jvm.Cond.code x code maxLocals ret :: ws) room_1) (fun a U => a = #[(.int p0), (.int p1), (.int p2)] ∧ Z.Warmed39 U.vm ∧ U.heap = h0) (fun _ _ _ _ _ => True) (fun _ U o U' => ∃ v L, o = .returned v ∧ Q0 Z p0 p1 p2 wPRODUCE wFETCH wLIST_OFFSETS wMETADATA wOFFSET_COMMIT wOFFSET_FETCH wFIND_COORDINATOR wJOIN_GROUP wHEARTBEAT wLEAVE_GROUP wSYNC_GROUP wAPI_VERSIONS wINIT_PRODUCER_ID wADD_PARTITIONS_TO_TXN wADD_OFFSETS_TO_TXN wEND_TXN wTXN_OFFSET_COMMIT h0 n0 v U'.heap L ∧ FrameEnd U o U' L room_1.cells room_1.slots) := by
  refine MetFree.of_bodySF (plainFor_of_name pn_1) hisR ?_
  intro p e s m args below meth c s₁ Bd hml0 hP hK
  obtain ⟨rfl, hZ, hh⟩ := hP
  have hx := Bd.exec
  have hby := Bd.bytes
  have hml : c.maxLocals = 11 := hml0
  have hown : s.vm.findClass "com/example/idem_log/idemlog/protocol/ApiServesPinLaw" = some m.cls := findClass_of_methodNamed Bd.named
  have X0 : Stand p l e room_1 s m #[(.int p0), (.int p1), (.int p2)] below meth c s₁ [] 0 0 := Stand.of_body Bd
  have e0 : s₁.heap = h0 := by rw [← hh, Bd.state]; rfl
  have N0 := Fr.nil n0
  have W1 := W0
  obtain ⟨SPRODUCE, EPRODUCE, SFETCH, EFETCH, SLIST_OFFSETS, ELIST_OFFSETS, SMETADATA, EMETADATA, SOFFSET_COMMIT, EOFFSET_COMMIT, SOFFSET_FETCH, EOFFSET_FETCH, SFIND_COORDINATOR, EFIND_COORDINATOR, SJOIN_GROUP, EJOIN_GROUP, SHEARTBEAT, EHEARTBEAT, SLEAVE_GROUP, ELEAVE_GROUP, SSYNC_GROUP, ESYNC_GROUP, SAPI_VERSIONS, EAPI_VERSIONS, SINIT_PRODUCER_ID, EINIT_PRODUCER_ID, SADD_PARTITIONS_TO_TXN, EADD_PARTITIONS_TO_TXN, SADD_OFFSETS_TO_TXN, EADD_OFFSETS_TO_TXN, SEND_TXN, EEND_TXN, STXN_OFFSET_COMMIT, ETXN_OFFSET_COMMIT, FPRODUCE_minVersion, FPRODUCE_maxVersion, FFETCH_minVersion, FAPI_VERSIONS_minVersion, FAPI_VERSIONS_maxVersion, FHEARTBEAT_minVersion, FINIT_PRODUCER_ID_minVersion, FHEARTBEAT_maxVersion, FADD_PARTITIONS_TO_TXN_minVersion, FADD_PARTITIONS_TO_TXN_maxVersion, FMETADATA_minVersion, FSYNC_GROUP_minVersion, FSYNC_GROUP_maxVersion, FTXN_OFFSET_COMMIT_minVersion, FTXN_OFFSET_COMMIT_maxVersion, FFETCH_maxVersion, FJOIN_GROUP_minVersion, FLIST_OFFSETS_minVersion, FLIST_OFFSETS_maxVersion, FOFFSET_COMMIT_minVersion, FOFFSET_COMMIT_maxVersion, FOFFSET_FETCH_minVersion, FOFFSET_FETCH_maxVersion, FADD_OFFSETS_TO_TXN_minVersion, FADD_OFFSETS_TO_TXN_maxVersion, FFIND_COORDINATOR_minVersion, FFIND_COORDINATOR_maxVersion, FLEAVE_GROUP_minVersion, FLEAVE_GROUP_maxVersion, FJOIN_GROUP_maxVersion, FEND_TXN_minVersion, FEND_TXN_maxVersion, FMETADATA_maxVersion, FINIT_PRODUCER_ID_maxVersion, -⟩ := W1
  have pre0 : ∀ t, Steps p.tables e below (s₁.setTop (mkF m 0 #[.val (.int p0), .val (.int p1), .val (.int p2), .unset, .unset, .unset, .unset, .unset, .unset, .unset, .unset] [])) t → Steps p.tables e below (s₁.setTop (entryFrame m #[(.int p0), (.int p1), (.int p2)] maxLocals)) t := fun t k => castTop (ef_0 m p0 p1 p2) k
  obtain ⟨T7, h7, k7, X7, e7, E7, A7, O7, st7⟩ := newR X0 hx hZ hown (hw _ (List.mem_of_getElem? (i := 0) rfl)) (hw _ (List.mem_of_getElem? (i := 1) rfl)) e0 (g := (mkF m 2 #[.val (.int p0), .val (.int p1), .val (.int p2), .unset, .unset, .unset, .unset, .unset, .unset, .unset, .unset] [(.int (17 : Int32))])) rfl (hb hby at_2) rfl (by decide) (cap := 17) (by decide) (by decide) (by decide) (by decide)
  obtain ⟨b7, g7⟩ : ∃ z, z = h0.size := ⟨_, rfl⟩
  rw [← g7] at A7 st7
  have V7 : Arv Z h7 b7 k7 (.object "com/example/idem_log/idemlog/protocol/Api") (17 : Int32) [.null, .null, .null, .null, .null, .null, .null, .null, .null, .null, .null, .null, .null, .null, .null, .null, .null] .null := (Arv.new A7 (by decide)).pad (pad_rep [] .null 17)
  have g_b7 : n0 ≤ b7 := Nat.le_trans Z0 (Nat.le_of_eq g7.symm)
  have sz_b7 : h0.size ≤ b7 := Nat.le_of_eq g7.symm
  have EX7 : Ext h0 h7 := E7
  obtain ⟨T8, X8, e8, st8⟩ := getS2 X7 hx hZ hown (host := "") (Or.inl (hw _ (List.mem_of_getElem? (i := 2) rfl))) Via.refl e7 (SPRODUCE.ext EX7) (g := (mkF m 7 #[.val (.int p0), .val (.int p1), .val (.int p2), .unset, .unset, .unset, .unset, .unset, .unset, .unset, .unset] [(.int (0 : Int32)), (.ref b7), (.ref b7)])) rfl (hb hby at_7)
  obtain ⟨cl9, Ar9, q9, S9, N9, H9, G9⟩ := And.left ⟨V7, trivial⟩
  have hin9 : ¬ ((0 : Int32) < 0 ∨ cl9.slots.size ≤ ((0 : Int32)).toNatClampNeg) := inb_of S9 ⟨by decide, by decide⟩
  obtain ⟨T9, h9, X9, e9, W9, st9⟩ := stR X8 hx hZ e8 Ar9 (j := (0 : Int32)) hin9 rfl (Sto.ofV Ar9 q9 O7 (Ins.self (EPRODUCE.ext EX7))) (g := (mkF m 10 #[.val (.int p0), .val (.int p1), .val (.int p2), .unset, .unset, .unset, .unset, .unset, .unset, .unset, .unset] [(.ref wPRODUCE), (.int (0 : Int32)), (.ref b7), (.ref b7)])) rfl rfl (hb hby at_10)
  have V9 : Arv Z h9 b7 k7 (.object "com/example/idem_log/idemlog/protocol/Api") (17 : Int32) [(.ref wPRODUCE), .null, .null, .null, .null, .null, .null, .null, .null, .null, .null, .null, .null, .null, .null, .null, .null] .null := Arv.set Ar9 q9 S9 N9 H9 G9 rfl W9 0 rfl (Nat.le_of_ble_eq_true rfl)
  have N9' := Fr.snoc X9 N0 g_b7
  have EX9 : Ext h0 h9 := own_ext_wr EX7 W9 sz_b7
  obtain ⟨T10, X10, e10, st10⟩ := getS2 X9 hx hZ hown (host := "") (Or.inl (hw _ (List.mem_of_getElem? (i := 6) rfl))) Via.refl e9 (SFETCH.ext EX9) (g := (mkF m 13 #[.val (.int p0), .val (.int p1), .val (.int p2), .unset, .unset, .unset, .unset, .unset, .unset, .unset, .unset] [(.int (1 : Int32)), (.ref b7), (.ref b7)])) rfl (hb hby at_13)
  obtain ⟨cl11, Ar11, q11, S11, N11, H11, G11⟩ := And.left ⟨V9, trivial⟩
  have hin11 : ¬ ((1 : Int32) < 0 ∨ cl11.slots.size ≤ ((1 : Int32)).toNatClampNeg) := inb_of S11 ⟨by decide, by decide⟩
  obtain ⟨T11, h11, X11, e11, W11, st11⟩ := stR X10 hx hZ e10 Ar11 (j := (1 : Int32)) hin11 rfl (Sto.ofV Ar11 q11 O7 (Ins.self (EFETCH.ext EX9))) (g := (mkF m 16 #[.val (.int p0), .val (.int p1), .val (.int p2), .unset, .unset, .unset, .unset, .unset, .unset, .unset, .unset] [(.ref wFETCH), (.int (1 : Int32)), (.ref b7), (.ref b7)])) rfl rfl (hb hby at_16)
  have V11 : Arv Z h11 b7 k7 (.object "com/example/idem_log/idemlog/protocol/Api") (17 : Int32) [(.ref wPRODUCE), (.ref wFETCH), .null, .null, .null, .null, .null, .null, .null, .null, .null, .null, .null, .null, .null, .null, .null] .null := Arv.set Ar11 q11 S11 N11 H11 G11 rfl W11 1 rfl (Nat.le_of_ble_eq_true rfl)
  have N11' := Fr.snoc X11 N9' g_b7
  have EX11 : Ext h0 h11 := own_ext_wr EX9 W11 sz_b7
  obtain ⟨T12, X12, e12, st12⟩ := getS2 X11 hx hZ hown (host := "") (Or.inl (hw _ (List.mem_of_getElem? (i := 8) rfl))) Via.refl e11 (SLIST_OFFSETS.ext EX11) (g := (mkF m 19 #[.val (.int p0), .val (.int p1), .val (.int p2), .unset, .unset, .unset, .unset, .unset, .unset, .unset, .unset] [(.int (2 : Int32)), (.ref b7), (.ref b7)])) rfl (hb hby at_19)
  obtain ⟨cl13, Ar13, q13, S13, N13, H13, G13⟩ := And.left ⟨V11, trivial⟩
  have hin13 : ¬ ((2 : Int32) < 0 ∨ cl13.slots.size ≤ ((2 : Int32)).toNatClampNeg) := inb_of S13 ⟨by decide, by decide⟩
  obtain ⟨T13, h13, X13, e13, W13, st13⟩ := stR X12 hx hZ e12 Ar13 (j := (2 : Int32)) hin13 rfl (Sto.ofV Ar13 q13 O7 (Ins.self (ELIST_OFFSETS.ext EX11))) (g := (mkF m 22 #[.val (.int p0), .val (.int p1), .val (.int p2), .unset, .unset, .unset, .unset, .unset, .unset, .unset, .unset] [(.ref wLIST_OFFSETS), (.int (2 : Int32)), (.ref b7), (.ref b7)])) rfl rfl (hb hby at_22)
  have V13 : Arv Z h13 b7 k7 (.object "com/example/idem_log/idemlog/protocol/Api") (17 : Int32) [(.ref wPRODUCE), (.ref wFETCH), (.ref wLIST_OFFSETS), .null, .null, .null, .null, .null, .null, .null, .null, .null, .null, .null, .null, .null, .null] .null := Arv.set Ar13 q13 S13 N13 H13 G13 rfl W13 2 rfl (Nat.le_of_ble_eq_true rfl)
  have N13' := Fr.snoc X13 N11' g_b7
  have EX13 : Ext h0 h13 := own_ext_wr EX11 W13 sz_b7
  obtain ⟨T14, X14, e14, st14⟩ := getS2 X13 hx hZ hown (host := "") (Or.inl (hw _ (List.mem_of_getElem? (i := 10) rfl))) Via.refl e13 (SMETADATA.ext EX13) (g := (mkF m 25 #[.val (.int p0), .val (.int p1), .val (.int p2), .unset, .unset, .unset, .unset, .unset, .unset, .unset, .unset] [(.int (3 : Int32)), (.ref b7), (.ref b7)])) rfl (hb hby at_25)
  obtain ⟨cl15, Ar15, q15, S15, N15, H15, G15⟩ := And.left ⟨V13, trivial⟩
  have hin15 : ¬ ((3 : Int32) < 0 ∨ cl15.slots.size ≤ ((3 : Int32)).toNatClampNeg) := inb_of S15 ⟨by decide, by decide⟩
  obtain ⟨T15, h15, X15, e15, W15, st15⟩ := stR X14 hx hZ e14 Ar15 (j := (3 : Int32)) hin15 rfl (Sto.ofV Ar15 q15 O7 (Ins.self (EMETADATA.ext EX13))) (g := (mkF m 28 #[.val (.int p0), .val (.int p1), .val (.int p2), .unset, .unset, .unset, .unset, .unset, .unset, .unset, .unset] [(.ref wMETADATA), (.int (3 : Int32)), (.ref b7), (.ref b7)])) rfl rfl (hb hby at_28)
  have V15 : Arv Z h15 b7 k7 (.object "com/example/idem_log/idemlog/protocol/Api") (17 : Int32) [(.ref wPRODUCE), (.ref wFETCH), (.ref wLIST_OFFSETS), (.ref wMETADATA), .null, .null, .null, .null, .null, .null, .null, .null, .null, .null, .null, .null, .null] .null := Arv.set Ar15 q15 S15 N15 H15 G15 rfl W15 3 rfl (Nat.le_of_ble_eq_true rfl)
  have N15' := Fr.snoc X15 N13' g_b7
  have EX15 : Ext h0 h15 := own_ext_wr EX13 W15 sz_b7
  have k16 : ∀ t, Steps p.tables e below (T15.setTop (mkF m 30 #[.val (.int p0), .val (.int p1), .val (.int p2), .unset, .unset, .unset, .unset, .unset, .unset, .unset, .unset] [(.ref b7), (.ref b7)])) t → Steps p.tables e below (s₁.setTop (entryFrame m #[(.int p0), (.int p1), (.int p2)] maxLocals)) t := fun t kt => pre0 t (by
    show Steps p.tables e below (s₁.setTop (mkF m 0 #[.val (.int p0), .val (.int p1), .val (.int p2), .unset, .unset, .unset, .unset, .unset, .unset, .unset, .unset] [])) _
    refine XS.bipush X0.here hx rfl (hb hby at_0) ?_
    show Steps p.tables e below (s₁.setTop (mkF m 2 #[.val (.int p0), .val (.int p1), .val (.int p2), .unset, .unset, .unset, .unset, .unset, .unset, .unset, .unset] [(.int (17 : Int32))])) _
    refine st7 _ ?_
    show Steps p.tables e below (T7.setTop (mkF m 5 #[.val (.int p0), .val (.int p1), .val (.int p2), .unset, .unset, .unset, .unset, .unset, .unset, .unset, .unset] [(.ref b7)])) _
    refine XS.dup X7.here hx rfl (hb hby at_5) rfl rfl ?_
    show Steps p.tables e below (T7.setTop (mkF m 6 #[.val (.int p0), .val (.int p1), .val (.int p2), .unset, .unset, .unset, .unset, .unset, .unset, .unset, .unset] [(.ref b7), (.ref b7)])) _
    refine XS.iconst X7.here hx rfl (hb hby at_6) ?_
    show Steps p.tables e below (T7.setTop (mkF m 7 #[.val (.int p0), .val (.int p1), .val (.int p2), .unset, .unset, .unset, .unset, .unset, .unset, .unset, .unset] [(.int (0 : Int32)), (.ref b7), (.ref b7)])) _
    refine st8 _ ?_
    show Steps p.tables e below (T8.setTop (mkF m 10 #[.val (.int p0), .val (.int p1), .val (.int p2), .unset, .unset, .unset, .unset, .unset, .unset, .unset, .unset] [(.ref wPRODUCE), (.int (0 : Int32)), (.ref b7), (.ref b7)])) _
    refine st9 _ ?_
    show Steps p.tables e below (T9.setTop (mkF m 11 #[.val (.int p0), .val (.int p1), .val (.int p2), .unset, .unset, .unset, .unset, .unset, .unset, .unset, .unset] [(.ref b7)])) _
    refine XS.dup X9.here hx rfl (hb hby at_11) rfl rfl ?_
    show Steps p.tables e below (T9.setTop (mkF m 12 #[.val (.int p0), .val (.int p1), .val (.int p2), .unset, .unset, .unset, .unset, .unset, .unset, .unset, .unset] [(.ref b7), (.ref b7)])) _
    refine XS.iconst X9.here hx rfl (hb hby at_12) ?_
    show Steps p.tables e below (T9.setTop (mkF m 13 #[.val (.int p0), .val (.int p1), .val (.int p2), .unset, .unset, .unset, .unset, .unset, .unset, .unset, .unset] [(.int (1 : Int32)), (.ref b7), (.ref b7)])) _
    refine st10 _ ?_
    show Steps p.tables e below (T10.setTop (mkF m 16 #[.val (.int p0), .val (.int p1), .val (.int p2), .unset, .unset, .unset, .unset, .unset, .unset, .unset, .unset] [(.ref wFETCH), (.int (1 : Int32)), (.ref b7), (.ref b7)])) _
    refine st11 _ ?_
    show Steps p.tables e below (T11.setTop (mkF m 17 #[.val (.int p0), .val (.int p1), .val (.int p2), .unset, .unset, .unset, .unset, .unset, .unset, .unset, .unset] [(.ref b7)])) _
    refine XS.dup X11.here hx rfl (hb hby at_17) rfl rfl ?_
    show Steps p.tables e below (T11.setTop (mkF m 18 #[.val (.int p0), .val (.int p1), .val (.int p2), .unset, .unset, .unset, .unset, .unset, .unset, .unset, .unset] [(.ref b7), (.ref b7)])) _
    refine XS.iconst X11.here hx rfl (hb hby at_18) ?_
    show Steps p.tables e below (T11.setTop (mkF m 19 #[.val (.int p0), .val (.int p1), .val (.int p2), .unset, .unset, .unset, .unset, .unset, .unset, .unset, .unset] [(.int (2 : Int32)), (.ref b7), (.ref b7)])) _
    refine st12 _ ?_
    show Steps p.tables e below (T12.setTop (mkF m 22 #[.val (.int p0), .val (.int p1), .val (.int p2), .unset, .unset, .unset, .unset, .unset, .unset, .unset, .unset] [(.ref wLIST_OFFSETS), (.int (2 : Int32)), (.ref b7), (.ref b7)])) _
    refine st13 _ ?_
    show Steps p.tables e below (T13.setTop (mkF m 23 #[.val (.int p0), .val (.int p1), .val (.int p2), .unset, .unset, .unset, .unset, .unset, .unset, .unset, .unset] [(.ref b7)])) _
    refine XS.dup X13.here hx rfl (hb hby at_23) rfl rfl ?_
    show Steps p.tables e below (T13.setTop (mkF m 24 #[.val (.int p0), .val (.int p1), .val (.int p2), .unset, .unset, .unset, .unset, .unset, .unset, .unset, .unset] [(.ref b7), (.ref b7)])) _
    refine XS.iconst X13.here hx rfl (hb hby at_24) ?_
    show Steps p.tables e below (T13.setTop (mkF m 25 #[.val (.int p0), .val (.int p1), .val (.int p2), .unset, .unset, .unset, .unset, .unset, .unset, .unset, .unset] [(.int (3 : Int32)), (.ref b7), (.ref b7)])) _
    refine st14 _ ?_
    show Steps p.tables e below (T14.setTop (mkF m 28 #[.val (.int p0), .val (.int p1), .val (.int p2), .unset, .unset, .unset, .unset, .unset, .unset, .unset, .unset] [(.ref wMETADATA), (.int (3 : Int32)), (.ref b7), (.ref b7)])) _
    refine st15 _ ?_
    show Steps p.tables e below (T15.setTop (mkF m 29 #[.val (.int p0), .val (.int p1), .val (.int p2), .unset, .unset, .unset, .unset, .unset, .unset, .unset, .unset] [(.ref b7)])) _
    refine XS.dup X15.here hx rfl (hb hby at_29) rfl rfl ?_
    exact kt)
  obtain ⟨T17, X17, e17, st17⟩ := getS2 X15 hx hZ hown (host := "") (Or.inl (hw _ (List.mem_of_getElem? (i := 12) rfl))) Via.refl e15 (SOFFSET_COMMIT.ext EX15) (g := (mkF m 31 #[.val (.int p0), .val (.int p1), .val (.int p2), .unset, .unset, .unset, .unset, .unset, .unset, .unset, .unset] [(.int (4 : Int32)), (.ref b7), (.ref b7)])) rfl (hb hby at_31)
  obtain ⟨cl18, Ar18, q18, S18, N18, H18, G18⟩ := And.left ⟨V15, trivial⟩
  have hin18 : ¬ ((4 : Int32) < 0 ∨ cl18.slots.size ≤ ((4 : Int32)).toNatClampNeg) := inb_of S18 ⟨by decide, by decide⟩
  obtain ⟨T18, h18, X18, e18, W18, st18⟩ := stR X17 hx hZ e17 Ar18 (j := (4 : Int32)) hin18 rfl (Sto.ofV Ar18 q18 O7 (Ins.self (EOFFSET_COMMIT.ext EX15))) (g := (mkF m 34 #[.val (.int p0), .val (.int p1), .val (.int p2), .unset, .unset, .unset, .unset, .unset, .unset, .unset, .unset] [(.ref wOFFSET_COMMIT), (.int (4 : Int32)), (.ref b7), (.ref b7)])) rfl rfl (hb hby at_34)
  have V18 : Arv Z h18 b7 k7 (.object "com/example/idem_log/idemlog/protocol/Api") (17 : Int32) [(.ref wPRODUCE), (.ref wFETCH), (.ref wLIST_OFFSETS), (.ref wMETADATA), (.ref wOFFSET_COMMIT), .null, .null, .null, .null, .null, .null, .null, .null, .null, .null, .null, .null] .null := Arv.set Ar18 q18 S18 N18 H18 G18 rfl W18 4 rfl (Nat.le_of_ble_eq_true rfl)
  have N18' := Fr.snoc X18 N15' g_b7
  have EX18 : Ext h0 h18 := own_ext_wr EX15 W18 sz_b7
  obtain ⟨T19, X19, e19, st19⟩ := getS2 X18 hx hZ hown (host := "") (Or.inl (hw _ (List.mem_of_getElem? (i := 14) rfl))) Via.refl e18 (SOFFSET_FETCH.ext EX18) (g := (mkF m 37 #[.val (.int p0), .val (.int p1), .val (.int p2), .unset, .unset, .unset, .unset, .unset, .unset, .unset, .unset] [(.int (5 : Int32)), (.ref b7), (.ref b7)])) rfl (hb hby at_37)
  obtain ⟨cl20, Ar20, q20, S20, N20, H20, G20⟩ := And.left ⟨V18, trivial⟩
  have hin20 : ¬ ((5 : Int32) < 0 ∨ cl20.slots.size ≤ ((5 : Int32)).toNatClampNeg) := inb_of S20 ⟨by decide, by decide⟩
  obtain ⟨T20, h20, X20, e20, W20, st20⟩ := stR X19 hx hZ e19 Ar20 (j := (5 : Int32)) hin20 rfl (Sto.ofV Ar20 q20 O7 (Ins.self (EOFFSET_FETCH.ext EX18))) (g := (mkF m 40 #[.val (.int p0), .val (.int p1), .val (.int p2), .unset, .unset, .unset, .unset, .unset, .unset, .unset, .unset] [(.ref wOFFSET_FETCH), (.int (5 : Int32)), (.ref b7), (.ref b7)])) rfl rfl (hb hby at_40)
  have V20 : Arv Z h20 b7 k7 (.object "com/example/idem_log/idemlog/protocol/Api") (17 : Int32) [(.ref wPRODUCE), (.ref wFETCH), (.ref wLIST_OFFSETS), (.ref wMETADATA), (.ref wOFFSET_COMMIT), (.ref wOFFSET_FETCH), .null, .null, .null, .null, .null, .null, .null, .null, .null, .null, .null] .null := Arv.set Ar20 q20 S20 N20 H20 G20 rfl W20 5 rfl (Nat.le_of_ble_eq_true rfl)
  have N20' := Fr.snoc X20 N18' g_b7
  have EX20 : Ext h0 h20 := own_ext_wr EX18 W20 sz_b7
  obtain ⟨T21, X21, e21, st21⟩ := getS2 X20 hx hZ hown (host := "") (Or.inl (hw _ (List.mem_of_getElem? (i := 16) rfl))) Via.refl e20 (SFIND_COORDINATOR.ext EX20) (g := (mkF m 44 #[.val (.int p0), .val (.int p1), .val (.int p2), .unset, .unset, .unset, .unset, .unset, .unset, .unset, .unset] [(.int (6 : Int32)), (.ref b7), (.ref b7)])) rfl (hb hby at_44)
  obtain ⟨cl22, Ar22, q22, S22, N22, H22, G22⟩ := And.left ⟨V20, trivial⟩
  have hin22 : ¬ ((6 : Int32) < 0 ∨ cl22.slots.size ≤ ((6 : Int32)).toNatClampNeg) := inb_of S22 ⟨by decide, by decide⟩
  obtain ⟨T22, h22, X22, e22, W22, st22⟩ := stR X21 hx hZ e21 Ar22 (j := (6 : Int32)) hin22 rfl (Sto.ofV Ar22 q22 O7 (Ins.self (EFIND_COORDINATOR.ext EX20))) (g := (mkF m 47 #[.val (.int p0), .val (.int p1), .val (.int p2), .unset, .unset, .unset, .unset, .unset, .unset, .unset, .unset] [(.ref wFIND_COORDINATOR), (.int (6 : Int32)), (.ref b7), (.ref b7)])) rfl rfl (hb hby at_47)
  have V22 : Arv Z h22 b7 k7 (.object "com/example/idem_log/idemlog/protocol/Api") (17 : Int32) [(.ref wPRODUCE), (.ref wFETCH), (.ref wLIST_OFFSETS), (.ref wMETADATA), (.ref wOFFSET_COMMIT), (.ref wOFFSET_FETCH), (.ref wFIND_COORDINATOR), .null, .null, .null, .null, .null, .null, .null, .null, .null, .null] .null := Arv.set Ar22 q22 S22 N22 H22 G22 rfl W22 6 rfl (Nat.le_of_ble_eq_true rfl)
  have N22' := Fr.snoc X22 N20' g_b7
  have EX22 : Ext h0 h22 := own_ext_wr EX20 W22 sz_b7
  obtain ⟨T23, X23, e23, st23⟩ := getS2 X22 hx hZ hown (host := "") (Or.inl (hw _ (List.mem_of_getElem? (i := 18) rfl))) Via.refl e22 (SJOIN_GROUP.ext EX22) (g := (mkF m 51 #[.val (.int p0), .val (.int p1), .val (.int p2), .unset, .unset, .unset, .unset, .unset, .unset, .unset, .unset] [(.int (7 : Int32)), (.ref b7), (.ref b7)])) rfl (hb hby at_51)
  obtain ⟨cl24, Ar24, q24, S24, N24, H24, G24⟩ := And.left ⟨V22, trivial⟩
  have hin24 : ¬ ((7 : Int32) < 0 ∨ cl24.slots.size ≤ ((7 : Int32)).toNatClampNeg) := inb_of S24 ⟨by decide, by decide⟩
  obtain ⟨T24, h24, X24, e24, W24, st24⟩ := stR X23 hx hZ e23 Ar24 (j := (7 : Int32)) hin24 rfl (Sto.ofV Ar24 q24 O7 (Ins.self (EJOIN_GROUP.ext EX22))) (g := (mkF m 54 #[.val (.int p0), .val (.int p1), .val (.int p2), .unset, .unset, .unset, .unset, .unset, .unset, .unset, .unset] [(.ref wJOIN_GROUP), (.int (7 : Int32)), (.ref b7), (.ref b7)])) rfl rfl (hb hby at_54)
  have V24 : Arv Z h24 b7 k7 (.object "com/example/idem_log/idemlog/protocol/Api") (17 : Int32) [(.ref wPRODUCE), (.ref wFETCH), (.ref wLIST_OFFSETS), (.ref wMETADATA), (.ref wOFFSET_COMMIT), (.ref wOFFSET_FETCH), (.ref wFIND_COORDINATOR), (.ref wJOIN_GROUP), .null, .null, .null, .null, .null, .null, .null, .null, .null] .null := Arv.set Ar24 q24 S24 N24 H24 G24 rfl W24 7 rfl (Nat.le_of_ble_eq_true rfl)
  have N24' := Fr.snoc X24 N22' g_b7
  have EX24 : Ext h0 h24 := own_ext_wr EX22 W24 sz_b7
  obtain ⟨T25, X25, e25, st25⟩ := getS2 X24 hx hZ hown (host := "") (Or.inl (hw _ (List.mem_of_getElem? (i := 20) rfl))) Via.refl e24 (SHEARTBEAT.ext EX24) (g := (mkF m 58 #[.val (.int p0), .val (.int p1), .val (.int p2), .unset, .unset, .unset, .unset, .unset, .unset, .unset, .unset] [(.int (8 : Int32)), (.ref b7), (.ref b7)])) rfl (hb hby at_58)
  obtain ⟨cl26, Ar26, q26, S26, N26, H26, G26⟩ := And.left ⟨V24, trivial⟩
  have hin26 : ¬ ((8 : Int32) < 0 ∨ cl26.slots.size ≤ ((8 : Int32)).toNatClampNeg) := inb_of S26 ⟨by decide, by decide⟩
  obtain ⟨T26, h26, X26, e26, W26, st26⟩ := stR X25 hx hZ e25 Ar26 (j := (8 : Int32)) hin26 rfl (Sto.ofV Ar26 q26 O7 (Ins.self (EHEARTBEAT.ext EX24))) (g := (mkF m 61 #[.val (.int p0), .val (.int p1), .val (.int p2), .unset, .unset, .unset, .unset, .unset, .unset, .unset, .unset] [(.ref wHEARTBEAT), (.int (8 : Int32)), (.ref b7), (.ref b7)])) rfl rfl (hb hby at_61)
  have V26 : Arv Z h26 b7 k7 (.object "com/example/idem_log/idemlog/protocol/Api") (17 : Int32) [(.ref wPRODUCE), (.ref wFETCH), (.ref wLIST_OFFSETS), (.ref wMETADATA), (.ref wOFFSET_COMMIT), (.ref wOFFSET_FETCH), (.ref wFIND_COORDINATOR), (.ref wJOIN_GROUP), (.ref wHEARTBEAT), .null, .null, .null, .null, .null, .null, .null, .null] .null := Arv.set Ar26 q26 S26 N26 H26 G26 rfl W26 8 rfl (Nat.le_of_ble_eq_true rfl)
  have N26' := Fr.snoc X26 N24' g_b7
  have EX26 : Ext h0 h26 := own_ext_wr EX24 W26 sz_b7
  have k27 : ∀ t, Steps p.tables e below (T26.setTop (mkF m 62 #[.val (.int p0), .val (.int p1), .val (.int p2), .unset, .unset, .unset, .unset, .unset, .unset, .unset, .unset] [(.ref b7)])) t → Steps p.tables e below (s₁.setTop (entryFrame m #[(.int p0), (.int p1), (.int p2)] maxLocals)) t := fun t kt => k16 t (by
    show Steps p.tables e below (T15.setTop (mkF m 30 #[.val (.int p0), .val (.int p1), .val (.int p2), .unset, .unset, .unset, .unset, .unset, .unset, .unset, .unset] [(.ref b7), (.ref b7)])) _
    refine XS.iconst X15.here hx rfl (hb hby at_30) ?_
    show Steps p.tables e below (T15.setTop (mkF m 31 #[.val (.int p0), .val (.int p1), .val (.int p2), .unset, .unset, .unset, .unset, .unset, .unset, .unset, .unset] [(.int (4 : Int32)), (.ref b7), (.ref b7)])) _
    refine st17 _ ?_
    show Steps p.tables e below (T17.setTop (mkF m 34 #[.val (.int p0), .val (.int p1), .val (.int p2), .unset, .unset, .unset, .unset, .unset, .unset, .unset, .unset] [(.ref wOFFSET_COMMIT), (.int (4 : Int32)), (.ref b7), (.ref b7)])) _
    refine st18 _ ?_
    show Steps p.tables e below (T18.setTop (mkF m 35 #[.val (.int p0), .val (.int p1), .val (.int p2), .unset, .unset, .unset, .unset, .unset, .unset, .unset, .unset] [(.ref b7)])) _
    refine XS.dup X18.here hx rfl (hb hby at_35) rfl rfl ?_
    show Steps p.tables e below (T18.setTop (mkF m 36 #[.val (.int p0), .val (.int p1), .val (.int p2), .unset, .unset, .unset, .unset, .unset, .unset, .unset, .unset] [(.ref b7), (.ref b7)])) _
    refine XS.iconst X18.here hx rfl (hb hby at_36) ?_
    show Steps p.tables e below (T18.setTop (mkF m 37 #[.val (.int p0), .val (.int p1), .val (.int p2), .unset, .unset, .unset, .unset, .unset, .unset, .unset, .unset] [(.int (5 : Int32)), (.ref b7), (.ref b7)])) _
    refine st19 _ ?_
    show Steps p.tables e below (T19.setTop (mkF m 40 #[.val (.int p0), .val (.int p1), .val (.int p2), .unset, .unset, .unset, .unset, .unset, .unset, .unset, .unset] [(.ref wOFFSET_FETCH), (.int (5 : Int32)), (.ref b7), (.ref b7)])) _
    refine st20 _ ?_
    show Steps p.tables e below (T20.setTop (mkF m 41 #[.val (.int p0), .val (.int p1), .val (.int p2), .unset, .unset, .unset, .unset, .unset, .unset, .unset, .unset] [(.ref b7)])) _
    refine XS.dup X20.here hx rfl (hb hby at_41) rfl rfl ?_
    show Steps p.tables e below (T20.setTop (mkF m 42 #[.val (.int p0), .val (.int p1), .val (.int p2), .unset, .unset, .unset, .unset, .unset, .unset, .unset, .unset] [(.ref b7), (.ref b7)])) _
    refine XS.bipush X20.here hx rfl (hb hby at_42) ?_
    show Steps p.tables e below (T20.setTop (mkF m 44 #[.val (.int p0), .val (.int p1), .val (.int p2), .unset, .unset, .unset, .unset, .unset, .unset, .unset, .unset] [(.int (6 : Int32)), (.ref b7), (.ref b7)])) _
    refine st21 _ ?_
    show Steps p.tables e below (T21.setTop (mkF m 47 #[.val (.int p0), .val (.int p1), .val (.int p2), .unset, .unset, .unset, .unset, .unset, .unset, .unset, .unset] [(.ref wFIND_COORDINATOR), (.int (6 : Int32)), (.ref b7), (.ref b7)])) _
    refine st22 _ ?_
    show Steps p.tables e below (T22.setTop (mkF m 48 #[.val (.int p0), .val (.int p1), .val (.int p2), .unset, .unset, .unset, .unset, .unset, .unset, .unset, .unset] [(.ref b7)])) _
    refine XS.dup X22.here hx rfl (hb hby at_48) rfl rfl ?_
    show Steps p.tables e below (T22.setTop (mkF m 49 #[.val (.int p0), .val (.int p1), .val (.int p2), .unset, .unset, .unset, .unset, .unset, .unset, .unset, .unset] [(.ref b7), (.ref b7)])) _
    refine XS.bipush X22.here hx rfl (hb hby at_49) ?_
    show Steps p.tables e below (T22.setTop (mkF m 51 #[.val (.int p0), .val (.int p1), .val (.int p2), .unset, .unset, .unset, .unset, .unset, .unset, .unset, .unset] [(.int (7 : Int32)), (.ref b7), (.ref b7)])) _
    refine st23 _ ?_
    show Steps p.tables e below (T23.setTop (mkF m 54 #[.val (.int p0), .val (.int p1), .val (.int p2), .unset, .unset, .unset, .unset, .unset, .unset, .unset, .unset] [(.ref wJOIN_GROUP), (.int (7 : Int32)), (.ref b7), (.ref b7)])) _
    refine st24 _ ?_
    show Steps p.tables e below (T24.setTop (mkF m 55 #[.val (.int p0), .val (.int p1), .val (.int p2), .unset, .unset, .unset, .unset, .unset, .unset, .unset, .unset] [(.ref b7)])) _
    refine XS.dup X24.here hx rfl (hb hby at_55) rfl rfl ?_
    show Steps p.tables e below (T24.setTop (mkF m 56 #[.val (.int p0), .val (.int p1), .val (.int p2), .unset, .unset, .unset, .unset, .unset, .unset, .unset, .unset] [(.ref b7), (.ref b7)])) _
    refine XS.bipush X24.here hx rfl (hb hby at_56) ?_
    show Steps p.tables e below (T24.setTop (mkF m 58 #[.val (.int p0), .val (.int p1), .val (.int p2), .unset, .unset, .unset, .unset, .unset, .unset, .unset, .unset] [(.int (8 : Int32)), (.ref b7), (.ref b7)])) _
    refine st25 _ ?_
    show Steps p.tables e below (T25.setTop (mkF m 61 #[.val (.int p0), .val (.int p1), .val (.int p2), .unset, .unset, .unset, .unset, .unset, .unset, .unset, .unset] [(.ref wHEARTBEAT), (.int (8 : Int32)), (.ref b7), (.ref b7)])) _
    refine st26 _ ?_
    exact kt)
  obtain ⟨T28, X28, e28, st28⟩ := getS2 X26 hx hZ hown (host := "") (Or.inl (hw _ (List.mem_of_getElem? (i := 22) rfl))) Via.refl e26 (SLEAVE_GROUP.ext EX26) (g := (mkF m 65 #[.val (.int p0), .val (.int p1), .val (.int p2), .unset, .unset, .unset, .unset, .unset, .unset, .unset, .unset] [(.int (9 : Int32)), (.ref b7), (.ref b7)])) rfl (hb hby at_65)
  obtain ⟨cl29, Ar29, q29, S29, N29, H29, G29⟩ := And.left ⟨V26, trivial⟩
  have hin29 : ¬ ((9 : Int32) < 0 ∨ cl29.slots.size ≤ ((9 : Int32)).toNatClampNeg) := inb_of S29 ⟨by decide, by decide⟩
  obtain ⟨T29, h29, X29, e29, W29, st29⟩ := stR X28 hx hZ e28 Ar29 (j := (9 : Int32)) hin29 rfl (Sto.ofV Ar29 q29 O7 (Ins.self (ELEAVE_GROUP.ext EX26))) (g := (mkF m 68 #[.val (.int p0), .val (.int p1), .val (.int p2), .unset, .unset, .unset, .unset, .unset, .unset, .unset, .unset] [(.ref wLEAVE_GROUP), (.int (9 : Int32)), (.ref b7), (.ref b7)])) rfl rfl (hb hby at_68)
  have V29 : Arv Z h29 b7 k7 (.object "com/example/idem_log/idemlog/protocol/Api") (17 : Int32) [(.ref wPRODUCE), (.ref wFETCH), (.ref wLIST_OFFSETS), (.ref wMETADATA), (.ref wOFFSET_COMMIT), (.ref wOFFSET_FETCH), (.ref wFIND_COORDINATOR), (.ref wJOIN_GROUP), (.ref wHEARTBEAT), (.ref wLEAVE_GROUP), .null, .null, .null, .null, .null, .null, .null] .null := Arv.set Ar29 q29 S29 N29 H29 G29 rfl W29 9 rfl (Nat.le_of_ble_eq_true rfl)
  have N29' := Fr.snoc X29 N26' g_b7
  have EX29 : Ext h0 h29 := own_ext_wr EX26 W29 sz_b7
  obtain ⟨T30, X30, e30, st30⟩ := getS2 X29 hx hZ hown (host := "") (Or.inl (hw _ (List.mem_of_getElem? (i := 24) rfl))) Via.refl e29 (SSYNC_GROUP.ext EX29) (g := (mkF m 72 #[.val (.int p0), .val (.int p1), .val (.int p2), .unset, .unset, .unset, .unset, .unset, .unset, .unset, .unset] [(.int (10 : Int32)), (.ref b7), (.ref b7)])) rfl (hb hby at_72)
  obtain ⟨cl31, Ar31, q31, S31, N31, H31, G31⟩ := And.left ⟨V29, trivial⟩
  have hin31 : ¬ ((10 : Int32) < 0 ∨ cl31.slots.size ≤ ((10 : Int32)).toNatClampNeg) := inb_of S31 ⟨by decide, by decide⟩
  obtain ⟨T31, h31, X31, e31, W31, st31⟩ := stR X30 hx hZ e30 Ar31 (j := (10 : Int32)) hin31 rfl (Sto.ofV Ar31 q31 O7 (Ins.self (ESYNC_GROUP.ext EX29))) (g := (mkF m 75 #[.val (.int p0), .val (.int p1), .val (.int p2), .unset, .unset, .unset, .unset, .unset, .unset, .unset, .unset] [(.ref wSYNC_GROUP), (.int (10 : Int32)), (.ref b7), (.ref b7)])) rfl rfl (hb hby at_75)
  have V31 : Arv Z h31 b7 k7 (.object "com/example/idem_log/idemlog/protocol/Api") (17 : Int32) [(.ref wPRODUCE), (.ref wFETCH), (.ref wLIST_OFFSETS), (.ref wMETADATA), (.ref wOFFSET_COMMIT), (.ref wOFFSET_FETCH), (.ref wFIND_COORDINATOR), (.ref wJOIN_GROUP), (.ref wHEARTBEAT), (.ref wLEAVE_GROUP), (.ref wSYNC_GROUP), .null, .null, .null, .null, .null, .null] .null := Arv.set Ar31 q31 S31 N31 H31 G31 rfl W31 10 rfl (Nat.le_of_ble_eq_true rfl)
  have N31' := Fr.snoc X31 N29' g_b7
  have EX31 : Ext h0 h31 := own_ext_wr EX29 W31 sz_b7
  obtain ⟨T32, X32, e32, st32⟩ := getS2 X31 hx hZ hown (host := "") (Or.inl (hw _ (List.mem_of_getElem? (i := 26) rfl))) Via.refl e31 (SAPI_VERSIONS.ext EX31) (g := (mkF m 79 #[.val (.int p0), .val (.int p1), .val (.int p2), .unset, .unset, .unset, .unset, .unset, .unset, .unset, .unset] [(.int (11 : Int32)), (.ref b7), (.ref b7)])) rfl (hb hby at_79)
  obtain ⟨cl33, Ar33, q33, S33, N33, H33, G33⟩ := And.left ⟨V31, trivial⟩
  have hin33 : ¬ ((11 : Int32) < 0 ∨ cl33.slots.size ≤ ((11 : Int32)).toNatClampNeg) := inb_of S33 ⟨by decide, by decide⟩
  obtain ⟨T33, h33, X33, e33, W33, st33⟩ := stR X32 hx hZ e32 Ar33 (j := (11 : Int32)) hin33 rfl (Sto.ofV Ar33 q33 O7 (Ins.self (EAPI_VERSIONS.ext EX31))) (g := (mkF m 82 #[.val (.int p0), .val (.int p1), .val (.int p2), .unset, .unset, .unset, .unset, .unset, .unset, .unset, .unset] [(.ref wAPI_VERSIONS), (.int (11 : Int32)), (.ref b7), (.ref b7)])) rfl rfl (hb hby at_82)
  have V33 : Arv Z h33 b7 k7 (.object "com/example/idem_log/idemlog/protocol/Api") (17 : Int32) [(.ref wPRODUCE), (.ref wFETCH), (.ref wLIST_OFFSETS), (.ref wMETADATA), (.ref wOFFSET_COMMIT), (.ref wOFFSET_FETCH), (.ref wFIND_COORDINATOR), (.ref wJOIN_GROUP), (.ref wHEARTBEAT), (.ref wLEAVE_GROUP), (.ref wSYNC_GROUP), (.ref wAPI_VERSIONS), .null, .null, .null, .null, .null] .null := Arv.set Ar33 q33 S33 N33 H33 G33 rfl W33 11 rfl (Nat.le_of_ble_eq_true rfl)
  have N33' := Fr.snoc X33 N31' g_b7
  have EX33 : Ext h0 h33 := own_ext_wr EX31 W33 sz_b7
  obtain ⟨T34, X34, e34, st34⟩ := getS2 X33 hx hZ hown (host := "") (Or.inl (hw _ (List.mem_of_getElem? (i := 28) rfl))) Via.refl e33 (SINIT_PRODUCER_ID.ext EX33) (g := (mkF m 86 #[.val (.int p0), .val (.int p1), .val (.int p2), .unset, .unset, .unset, .unset, .unset, .unset, .unset, .unset] [(.int (12 : Int32)), (.ref b7), (.ref b7)])) rfl (hb hby at_86)
  obtain ⟨cl35, Ar35, q35, S35, N35, H35, G35⟩ := And.left ⟨V33, trivial⟩
  have hin35 : ¬ ((12 : Int32) < 0 ∨ cl35.slots.size ≤ ((12 : Int32)).toNatClampNeg) := inb_of S35 ⟨by decide, by decide⟩
  obtain ⟨T35, h35, X35, e35, W35, st35⟩ := stR X34 hx hZ e34 Ar35 (j := (12 : Int32)) hin35 rfl (Sto.ofV Ar35 q35 O7 (Ins.self (EINIT_PRODUCER_ID.ext EX33))) (g := (mkF m 89 #[.val (.int p0), .val (.int p1), .val (.int p2), .unset, .unset, .unset, .unset, .unset, .unset, .unset, .unset] [(.ref wINIT_PRODUCER_ID), (.int (12 : Int32)), (.ref b7), (.ref b7)])) rfl rfl (hb hby at_89)
  have V35 : Arv Z h35 b7 k7 (.object "com/example/idem_log/idemlog/protocol/Api") (17 : Int32) [(.ref wPRODUCE), (.ref wFETCH), (.ref wLIST_OFFSETS), (.ref wMETADATA), (.ref wOFFSET_COMMIT), (.ref wOFFSET_FETCH), (.ref wFIND_COORDINATOR), (.ref wJOIN_GROUP), (.ref wHEARTBEAT), (.ref wLEAVE_GROUP), (.ref wSYNC_GROUP), (.ref wAPI_VERSIONS), (.ref wINIT_PRODUCER_ID), .null, .null, .null, .null] .null := Arv.set Ar35 q35 S35 N35 H35 G35 rfl W35 12 rfl (Nat.le_of_ble_eq_true rfl)
  have N35' := Fr.snoc X35 N33' g_b7
  have EX35 : Ext h0 h35 := own_ext_wr EX33 W35 sz_b7
  obtain ⟨T36, X36, e36, st36⟩ := getS2 X35 hx hZ hown (host := "") (Or.inl (hw _ (List.mem_of_getElem? (i := 30) rfl))) Via.refl e35 (SADD_PARTITIONS_TO_TXN.ext EX35) (g := (mkF m 93 #[.val (.int p0), .val (.int p1), .val (.int p2), .unset, .unset, .unset, .unset, .unset, .unset, .unset, .unset] [(.int (13 : Int32)), (.ref b7), (.ref b7)])) rfl (hb hby at_93)
  have k37 : ∀ t, Steps p.tables e below (T36.setTop (mkF m 96 #[.val (.int p0), .val (.int p1), .val (.int p2), .unset, .unset, .unset, .unset, .unset, .unset, .unset, .unset] [(.ref wADD_PARTITIONS_TO_TXN), (.int (13 : Int32)), (.ref b7), (.ref b7)])) t → Steps p.tables e below (s₁.setTop (entryFrame m #[(.int p0), (.int p1), (.int p2)] maxLocals)) t := fun t kt => k27 t (by
    show Steps p.tables e below (T26.setTop (mkF m 62 #[.val (.int p0), .val (.int p1), .val (.int p2), .unset, .unset, .unset, .unset, .unset, .unset, .unset, .unset] [(.ref b7)])) _
    refine XS.dup X26.here hx rfl (hb hby at_62) rfl rfl ?_
    show Steps p.tables e below (T26.setTop (mkF m 63 #[.val (.int p0), .val (.int p1), .val (.int p2), .unset, .unset, .unset, .unset, .unset, .unset, .unset, .unset] [(.ref b7), (.ref b7)])) _
    refine XS.bipush X26.here hx rfl (hb hby at_63) ?_
    show Steps p.tables e below (T26.setTop (mkF m 65 #[.val (.int p0), .val (.int p1), .val (.int p2), .unset, .unset, .unset, .unset, .unset, .unset, .unset, .unset] [(.int (9 : Int32)), (.ref b7), (.ref b7)])) _
    refine st28 _ ?_
    show Steps p.tables e below (T28.setTop (mkF m 68 #[.val (.int p0), .val (.int p1), .val (.int p2), .unset, .unset, .unset, .unset, .unset, .unset, .unset, .unset] [(.ref wLEAVE_GROUP), (.int (9 : Int32)), (.ref b7), (.ref b7)])) _
    refine st29 _ ?_
    show Steps p.tables e below (T29.setTop (mkF m 69 #[.val (.int p0), .val (.int p1), .val (.int p2), .unset, .unset, .unset, .unset, .unset, .unset, .unset, .unset] [(.ref b7)])) _
    refine XS.dup X29.here hx rfl (hb hby at_69) rfl rfl ?_
    show Steps p.tables e below (T29.setTop (mkF m 70 #[.val (.int p0), .val (.int p1), .val (.int p2), .unset, .unset, .unset, .unset, .unset, .unset, .unset, .unset] [(.ref b7), (.ref b7)])) _
    refine XS.bipush X29.here hx rfl (hb hby at_70) ?_
    show Steps p.tables e below (T29.setTop (mkF m 72 #[.val (.int p0), .val (.int p1), .val (.int p2), .unset, .unset, .unset, .unset, .unset, .unset, .unset, .unset] [(.int (10 : Int32)), (.ref b7), (.ref b7)])) _
    refine st30 _ ?_
    show Steps p.tables e below (T30.setTop (mkF m 75 #[.val (.int p0), .val (.int p1), .val (.int p2), .unset, .unset, .unset, .unset, .unset, .unset, .unset, .unset] [(.ref wSYNC_GROUP), (.int (10 : Int32)), (.ref b7), (.ref b7)])) _
    refine st31 _ ?_
    show Steps p.tables e below (T31.setTop (mkF m 76 #[.val (.int p0), .val (.int p1), .val (.int p2), .unset, .unset, .unset, .unset, .unset, .unset, .unset, .unset] [(.ref b7)])) _
    refine XS.dup X31.here hx rfl (hb hby at_76) rfl rfl ?_
    show Steps p.tables e below (T31.setTop (mkF m 77 #[.val (.int p0), .val (.int p1), .val (.int p2), .unset, .unset, .unset, .unset, .unset, .unset, .unset, .unset] [(.ref b7), (.ref b7)])) _
    refine XS.bipush X31.here hx rfl (hb hby at_77) ?_
    show Steps p.tables e below (T31.setTop (mkF m 79 #[.val (.int p0), .val (.int p1), .val (.int p2), .unset, .unset, .unset, .unset, .unset, .unset, .unset, .unset] [(.int (11 : Int32)), (.ref b7), (.ref b7)])) _
    refine st32 _ ?_
    show Steps p.tables e below (T32.setTop (mkF m 82 #[.val (.int p0), .val (.int p1), .val (.int p2), .unset, .unset, .unset, .unset, .unset, .unset, .unset, .unset] [(.ref wAPI_VERSIONS), (.int (11 : Int32)), (.ref b7), (.ref b7)])) _
    refine st33 _ ?_
    show Steps p.tables e below (T33.setTop (mkF m 83 #[.val (.int p0), .val (.int p1), .val (.int p2), .unset, .unset, .unset, .unset, .unset, .unset, .unset, .unset] [(.ref b7)])) _
    refine XS.dup X33.here hx rfl (hb hby at_83) rfl rfl ?_
    show Steps p.tables e below (T33.setTop (mkF m 84 #[.val (.int p0), .val (.int p1), .val (.int p2), .unset, .unset, .unset, .unset, .unset, .unset, .unset, .unset] [(.ref b7), (.ref b7)])) _
    refine XS.bipush X33.here hx rfl (hb hby at_84) ?_
    show Steps p.tables e below (T33.setTop (mkF m 86 #[.val (.int p0), .val (.int p1), .val (.int p2), .unset, .unset, .unset, .unset, .unset, .unset, .unset, .unset] [(.int (12 : Int32)), (.ref b7), (.ref b7)])) _
    refine st34 _ ?_
    show Steps p.tables e below (T34.setTop (mkF m 89 #[.val (.int p0), .val (.int p1), .val (.int p2), .unset, .unset, .unset, .unset, .unset, .unset, .unset, .unset] [(.ref wINIT_PRODUCER_ID), (.int (12 : Int32)), (.ref b7), (.ref b7)])) _
    refine st35 _ ?_
    show Steps p.tables e below (T35.setTop (mkF m 90 #[.val (.int p0), .val (.int p1), .val (.int p2), .unset, .unset, .unset, .unset, .unset, .unset, .unset, .unset] [(.ref b7)])) _
    refine XS.dup X35.here hx rfl (hb hby at_90) rfl rfl ?_
    show Steps p.tables e below (T35.setTop (mkF m 91 #[.val (.int p0), .val (.int p1), .val (.int p2), .unset, .unset, .unset, .unset, .unset, .unset, .unset, .unset] [(.ref b7), (.ref b7)])) _
    refine XS.bipush X35.here hx rfl (hb hby at_91) ?_
    show Steps p.tables e below (T35.setTop (mkF m 93 #[.val (.int p0), .val (.int p1), .val (.int p2), .unset, .unset, .unset, .unset, .unset, .unset, .unset, .unset] [(.int (13 : Int32)), (.ref b7), (.ref b7)])) _
    refine st36 _ ?_
    exact kt)
  obtain ⟨cl38, Ar38, q38, S38, N38, H38, G38⟩ := And.left ⟨V35, trivial⟩
  have hin38 : ¬ ((13 : Int32) < 0 ∨ cl38.slots.size ≤ ((13 : Int32)).toNatClampNeg) := inb_of S38 ⟨by decide, by decide⟩
  obtain ⟨T38, h38, X38, e38, W38, st38⟩ := stR X36 hx hZ e36 Ar38 (j := (13 : Int32)) hin38 rfl (Sto.ofV Ar38 q38 O7 (Ins.self (EADD_PARTITIONS_TO_TXN.ext EX35))) (g := (mkF m 96 #[.val (.int p0), .val (.int p1), .val (.int p2), .unset, .unset, .unset, .unset, .unset, .unset, .unset, .unset] [(.ref wADD_PARTITIONS_TO_TXN), (.int (13 : Int32)), (.ref b7), (.ref b7)])) rfl rfl (hb hby at_96)
  have V38 : Arv Z h38 b7 k7 (.object "com/example/idem_log/idemlog/protocol/Api") (17 : Int32) [(.ref wPRODUCE), (.ref wFETCH), (.ref wLIST_OFFSETS), (.ref wMETADATA), (.ref wOFFSET_COMMIT), (.ref wOFFSET_FETCH), (.ref wFIND_COORDINATOR), (.ref wJOIN_GROUP), (.ref wHEARTBEAT), (.ref wLEAVE_GROUP), (.ref wSYNC_GROUP), (.ref wAPI_VERSIONS), (.ref wINIT_PRODUCER_ID), (.ref wADD_PARTITIONS_TO_TXN), .null, .null, .null] .null := Arv.set Ar38 q38 S38 N38 H38 G38 rfl W38 13 rfl (Nat.le_of_ble_eq_true rfl)
  have N38' := Fr.snoc X38 N35' g_b7
  have EX38 : Ext h0 h38 := own_ext_wr EX35 W38 sz_b7
  obtain ⟨T39, X39, e39, st39⟩ := getS2 X38 hx hZ hown (host := "") (Or.inl (hw _ (List.mem_of_getElem? (i := 32) rfl))) Via.refl e38 (SADD_OFFSETS_TO_TXN.ext EX38) (g := (mkF m 100 #[.val (.int p0), .val (.int p1), .val (.int p2), .unset, .unset, .unset, .unset, .unset, .unset, .unset, .unset] [(.int (14 : Int32)), (.ref b7), (.ref b7)])) rfl (hb hby at_100)
  obtain ⟨cl40, Ar40, q40, S40, N40, H40, G40⟩ := And.left ⟨V38, trivial⟩
  have hin40 : ¬ ((14 : Int32) < 0 ∨ cl40.slots.size ≤ ((14 : Int32)).toNatClampNeg) := inb_of S40 ⟨by decide, by decide⟩
  obtain ⟨T40, h40, X40, e40, W40, st40⟩ := stR X39 hx hZ e39 Ar40 (j := (14 : Int32)) hin40 rfl (Sto.ofV Ar40 q40 O7 (Ins.self (EADD_OFFSETS_TO_TXN.ext EX38))) (g := (mkF m 103 #[.val (.int p0), .val (.int p1), .val (.int p2), .unset, .unset, .unset, .unset, .unset, .unset, .unset, .unset] [(.ref wADD_OFFSETS_TO_TXN), (.int (14 : Int32)), (.ref b7), (.ref b7)])) rfl rfl (hb hby at_103)
  have V40 : Arv Z h40 b7 k7 (.object "com/example/idem_log/idemlog/protocol/Api") (17 : Int32) [(.ref wPRODUCE), (.ref wFETCH), (.ref wLIST_OFFSETS), (.ref wMETADATA), (.ref wOFFSET_COMMIT), (.ref wOFFSET_FETCH), (.ref wFIND_COORDINATOR), (.ref wJOIN_GROUP), (.ref wHEARTBEAT), (.ref wLEAVE_GROUP), (.ref wSYNC_GROUP), (.ref wAPI_VERSIONS), (.ref wINIT_PRODUCER_ID), (.ref wADD_PARTITIONS_TO_TXN), (.ref wADD_OFFSETS_TO_TXN), .null, .null] .null := Arv.set Ar40 q40 S40 N40 H40 G40 rfl W40 14 rfl (Nat.le_of_ble_eq_true rfl)
  have N40' := Fr.snoc X40 N38' g_b7
  have EX40 : Ext h0 h40 := own_ext_wr EX38 W40 sz_b7
  obtain ⟨T41, X41, e41, st41⟩ := getS2 X40 hx hZ hown (host := "") (Or.inl (hw _ (List.mem_of_getElem? (i := 34) rfl))) Via.refl e40 (SEND_TXN.ext EX40) (g := (mkF m 107 #[.val (.int p0), .val (.int p1), .val (.int p2), .unset, .unset, .unset, .unset, .unset, .unset, .unset, .unset] [(.int (15 : Int32)), (.ref b7), (.ref b7)])) rfl (hb hby at_107)
  obtain ⟨cl42, Ar42, q42, S42, N42, H42, G42⟩ := And.left ⟨V40, trivial⟩
  have hin42 : ¬ ((15 : Int32) < 0 ∨ cl42.slots.size ≤ ((15 : Int32)).toNatClampNeg) := inb_of S42 ⟨by decide, by decide⟩
  obtain ⟨T42, h42, X42, e42, W42, st42⟩ := stR X41 hx hZ e41 Ar42 (j := (15 : Int32)) hin42 rfl (Sto.ofV Ar42 q42 O7 (Ins.self (EEND_TXN.ext EX40))) (g := (mkF m 110 #[.val (.int p0), .val (.int p1), .val (.int p2), .unset, .unset, .unset, .unset, .unset, .unset, .unset, .unset] [(.ref wEND_TXN), (.int (15 : Int32)), (.ref b7), (.ref b7)])) rfl rfl (hb hby at_110)
  have V42 : Arv Z h42 b7 k7 (.object "com/example/idem_log/idemlog/protocol/Api") (17 : Int32) [(.ref wPRODUCE), (.ref wFETCH), (.ref wLIST_OFFSETS), (.ref wMETADATA), (.ref wOFFSET_COMMIT), (.ref wOFFSET_FETCH), (.ref wFIND_COORDINATOR), (.ref wJOIN_GROUP), (.ref wHEARTBEAT), (.ref wLEAVE_GROUP), (.ref wSYNC_GROUP), (.ref wAPI_VERSIONS), (.ref wINIT_PRODUCER_ID), (.ref wADD_PARTITIONS_TO_TXN), (.ref wADD_OFFSETS_TO_TXN), (.ref wEND_TXN), .null] .null := Arv.set Ar42 q42 S42 N42 H42 G42 rfl W42 15 rfl (Nat.le_of_ble_eq_true rfl)
  have N42' := Fr.snoc X42 N40' g_b7
  have EX42 : Ext h0 h42 := own_ext_wr EX40 W42 sz_b7
  obtain ⟨T43, X43, e43, st43⟩ := getS2 X42 hx hZ hown (host := "") (Or.inl (hw _ (List.mem_of_getElem? (i := 36) rfl))) Via.refl e42 (STXN_OFFSET_COMMIT.ext EX42) (g := (mkF m 114 #[.val (.int p0), .val (.int p1), .val (.int p2), .unset, .unset, .unset, .unset, .unset, .unset, .unset, .unset] [(.int (16 : Int32)), (.ref b7), (.ref b7)])) rfl (hb hby at_114)
  obtain ⟨cl44, Ar44, q44, S44, N44, H44, G44⟩ := And.left ⟨V42, trivial⟩
  have hin44 : ¬ ((16 : Int32) < 0 ∨ cl44.slots.size ≤ ((16 : Int32)).toNatClampNeg) := inb_of S44 ⟨by decide, by decide⟩
  obtain ⟨T44, h44, X44, e44, W44, st44⟩ := stR X43 hx hZ e43 Ar44 (j := (16 : Int32)) hin44 rfl (Sto.ofV Ar44 q44 O7 (Ins.self (ETXN_OFFSET_COMMIT.ext EX42))) (g := (mkF m 117 #[.val (.int p0), .val (.int p1), .val (.int p2), .unset, .unset, .unset, .unset, .unset, .unset, .unset, .unset] [(.ref wTXN_OFFSET_COMMIT), (.int (16 : Int32)), (.ref b7), (.ref b7)])) rfl rfl (hb hby at_117)
  have V44 : Arv Z h44 b7 k7 (.object "com/example/idem_log/idemlog/protocol/Api") (17 : Int32) [(.ref wPRODUCE), (.ref wFETCH), (.ref wLIST_OFFSETS), (.ref wMETADATA), (.ref wOFFSET_COMMIT), (.ref wOFFSET_FETCH), (.ref wFIND_COORDINATOR), (.ref wJOIN_GROUP), (.ref wHEARTBEAT), (.ref wLEAVE_GROUP), (.ref wSYNC_GROUP), (.ref wAPI_VERSIONS), (.ref wINIT_PRODUCER_ID), (.ref wADD_PARTITIONS_TO_TXN), (.ref wADD_OFFSETS_TO_TXN), (.ref wEND_TXN), (.ref wTXN_OFFSET_COMMIT)] .null := Arv.set Ar44 q44 S44 N44 H44 G44 rfl W44 16 rfl (Nat.le_of_ble_eq_true rfl)
  have N44' := Fr.snoc X44 N42' g_b7
  have EX44 : Ext h0 h44 := own_ext_wr EX42 W44 sz_b7
  obtain ⟨T45, h45, k45, X45, e45, E45, A45, st45⟩ := newP X44 hx hZ (hw _ (List.mem_of_getElem? (i := 38) rfl)) e44 (g := (mkF m 121 #[.val (.int p0), .val (.int p1), .val (.int p2), .val (.ref b7), .unset, .unset, .unset, .unset, .unset, .unset, .unset] [(.int (17 : Int32))])) rfl (hb hby at_121) rfl (by decide) (cap := 17) (by decide) (by decide) (by decide) (by decide)
  obtain ⟨b45, g45⟩ : ∃ z, z = h44.size := ⟨_, rfl⟩
  rw [← g45] at A45 st45
  have V45 : Arv Z h45 b45 k45 .int (17 : Int32) [(.int (0 : Int32)), (.int (0 : Int32)), (.int (0 : Int32)), (.int (0 : Int32)), (.int (0 : Int32)), (.int (0 : Int32)), (.int (0 : Int32)), (.int (0 : Int32)), (.int (0 : Int32)), (.int (0 : Int32)), (.int (0 : Int32)), (.int (0 : Int32)), (.int (0 : Int32)), (.int (0 : Int32)), (.int (0 : Int32)), (.int (0 : Int32)), (.int (0 : Int32))] (.int (0 : Int32)) := (Arv.new A45 (by decide)).pad (pad_rep [] (.int (0 : Int32)) 17)
  have g_b45 : n0 ≤ b45 := Nat.le_trans (Nat.le_trans Z0 EX44.1) (Nat.le_of_eq g45.symm)
  have sz_b45 : h0.size ≤ b45 := Nat.le_trans EX44.1 <| Nat.le_of_eq g45.symm
  have ne_b7_b45 : b7 ≠ b45 := Nat.ne_of_lt (Nat.lt_of_lt_of_le V44.lt (Nat.le_of_eq g45.symm))
  have V46 := V44.ext E45
  have EX45 : Ext h0 h45 := own_ext_trans EX44 E45
  have k47 : ∀ t, Steps p.tables e below (T45.setTop (mkF m 126 #[.val (.int p0), .val (.int p1), .val (.int p2), .val (.ref b7), .unset, .unset, .unset, .unset, .unset, .unset, .unset] [(.int (3 : Int32)), (.int (0 : Int32)), (.ref b45), (.ref b45)])) t → Steps p.tables e below (s₁.setTop (entryFrame m #[(.int p0), (.int p1), (.int p2)] maxLocals)) t := fun t kt => k37 t (by
    show Steps p.tables e below (T36.setTop (mkF m 96 #[.val (.int p0), .val (.int p1), .val (.int p2), .unset, .unset, .unset, .unset, .unset, .unset, .unset, .unset] [(.ref wADD_PARTITIONS_TO_TXN), (.int (13 : Int32)), (.ref b7), (.ref b7)])) _
    refine st38 _ ?_
    show Steps p.tables e below (T38.setTop (mkF m 97 #[.val (.int p0), .val (.int p1), .val (.int p2), .unset, .unset, .unset, .unset, .unset, .unset, .unset, .unset] [(.ref b7)])) _
    refine XS.dup X38.here hx rfl (hb hby at_97) rfl rfl ?_
    show Steps p.tables e below (T38.setTop (mkF m 98 #[.val (.int p0), .val (.int p1), .val (.int p2), .unset, .unset, .unset, .unset, .unset, .unset, .unset, .unset] [(.ref b7), (.ref b7)])) _
    refine XS.bipush X38.here hx rfl (hb hby at_98) ?_
    show Steps p.tables e below (T38.setTop (mkF m 100 #[.val (.int p0), .val (.int p1), .val (.int p2), .unset, .unset, .unset, .unset, .unset, .unset, .unset, .unset] [(.int (14 : Int32)), (.ref b7), (.ref b7)])) _
    refine st39 _ ?_
    show Steps p.tables e below (T39.setTop (mkF m 103 #[.val (.int p0), .val (.int p1), .val (.int p2), .unset, .unset, .unset, .unset, .unset, .unset, .unset, .unset] [(.ref wADD_OFFSETS_TO_TXN), (.int (14 : Int32)), (.ref b7), (.ref b7)])) _
    refine st40 _ ?_
    show Steps p.tables e below (T40.setTop (mkF m 104 #[.val (.int p0), .val (.int p1), .val (.int p2), .unset, .unset, .unset, .unset, .unset, .unset, .unset, .unset] [(.ref b7)])) _
    refine XS.dup X40.here hx rfl (hb hby at_104) rfl rfl ?_
    show Steps p.tables e below (T40.setTop (mkF m 105 #[.val (.int p0), .val (.int p1), .val (.int p2), .unset, .unset, .unset, .unset, .unset, .unset, .unset, .unset] [(.ref b7), (.ref b7)])) _
    refine XS.bipush X40.here hx rfl (hb hby at_105) ?_
    show Steps p.tables e below (T40.setTop (mkF m 107 #[.val (.int p0), .val (.int p1), .val (.int p2), .unset, .unset, .unset, .unset, .unset, .unset, .unset, .unset] [(.int (15 : Int32)), (.ref b7), (.ref b7)])) _
    refine st41 _ ?_
    show Steps p.tables e below (T41.setTop (mkF m 110 #[.val (.int p0), .val (.int p1), .val (.int p2), .unset, .unset, .unset, .unset, .unset, .unset, .unset, .unset] [(.ref wEND_TXN), (.int (15 : Int32)), (.ref b7), (.ref b7)])) _
    refine st42 _ ?_
    show Steps p.tables e below (T42.setTop (mkF m 111 #[.val (.int p0), .val (.int p1), .val (.int p2), .unset, .unset, .unset, .unset, .unset, .unset, .unset, .unset] [(.ref b7)])) _
    refine XS.dup X42.here hx rfl (hb hby at_111) rfl rfl ?_
    show Steps p.tables e below (T42.setTop (mkF m 112 #[.val (.int p0), .val (.int p1), .val (.int p2), .unset, .unset, .unset, .unset, .unset, .unset, .unset, .unset] [(.ref b7), (.ref b7)])) _
    refine XS.bipush X42.here hx rfl (hb hby at_112) ?_
    show Steps p.tables e below (T42.setTop (mkF m 114 #[.val (.int p0), .val (.int p1), .val (.int p2), .unset, .unset, .unset, .unset, .unset, .unset, .unset, .unset] [(.int (16 : Int32)), (.ref b7), (.ref b7)])) _
    refine st43 _ ?_
    show Steps p.tables e below (T43.setTop (mkF m 117 #[.val (.int p0), .val (.int p1), .val (.int p2), .unset, .unset, .unset, .unset, .unset, .unset, .unset, .unset] [(.ref wTXN_OFFSET_COMMIT), (.int (16 : Int32)), (.ref b7), (.ref b7)])) _
    refine st44 _ ?_
    show Steps p.tables e below (T44.setTop (mkF m 118 #[.val (.int p0), .val (.int p1), .val (.int p2), .unset, .unset, .unset, .unset, .unset, .unset, .unset, .unset] [(.ref b7)])) _
    refine XS.astoreN X44.here hx rfl (hb hby at_118) rfl rfl (l' := #[.val (.int p0), .val (.int p1), .val (.int p2), .val (.ref b7), .unset, .unset, .unset, .unset, .unset, .unset, .unset]) rfl ?_
    show Steps p.tables e below (T44.setTop (mkF m 119 #[.val (.int p0), .val (.int p1), .val (.int p2), .val (.ref b7), .unset, .unset, .unset, .unset, .unset, .unset, .unset] [])) _
    refine XS.bipush X44.here hx rfl (hb hby at_119) ?_
    show Steps p.tables e below (T44.setTop (mkF m 121 #[.val (.int p0), .val (.int p1), .val (.int p2), .val (.ref b7), .unset, .unset, .unset, .unset, .unset, .unset, .unset] [(.int (17 : Int32))])) _
    refine st45 _ ?_
    show Steps p.tables e below (T45.setTop (mkF m 123 #[.val (.int p0), .val (.int p1), .val (.int p2), .val (.ref b7), .unset, .unset, .unset, .unset, .unset, .unset, .unset] [(.ref b45)])) _
    refine XS.dup X45.here hx rfl (hb hby at_123) rfl rfl ?_
    show Steps p.tables e below (T45.setTop (mkF m 124 #[.val (.int p0), .val (.int p1), .val (.int p2), .val (.ref b7), .unset, .unset, .unset, .unset, .unset, .unset, .unset] [(.ref b45), (.ref b45)])) _
    refine XS.iconst X45.here hx rfl (hb hby at_124) ?_
    show Steps p.tables e below (T45.setTop (mkF m 125 #[.val (.int p0), .val (.int p1), .val (.int p2), .val (.ref b7), .unset, .unset, .unset, .unset, .unset, .unset, .unset] [(.int (0 : Int32)), (.ref b45), (.ref b45)])) _
    refine XS.iconst X45.here hx rfl (hb hby at_125) ?_
    exact kt)
  obtain ⟨cl48, Ar48, q48, S48, N48, H48, G48⟩ := And.left ⟨V45, trivial⟩
  have hin48 : ¬ ((0 : Int32) < 0 ∨ cl48.slots.size ≤ ((0 : Int32)).toNatClampNeg) := inb_of S48 ⟨by decide, by decide⟩
  obtain ⟨T48, h48, X48, e48, W48, st48⟩ := stI X45 hx hZ e45 Ar48 (j := (0 : Int32)) hin48 (g := (mkF m 126 #[.val (.int p0), .val (.int p1), .val (.int p2), .val (.ref b7), .unset, .unset, .unset, .unset, .unset, .unset, .unset] [(.int (3 : Int32)), (.int (0 : Int32)), (.ref b45), (.ref b45)])) rfl rfl (hb hby at_126)
  have V48 : Arv Z h48 b45 k45 .int (17 : Int32) [(.int (3 : Int32)), (.int (0 : Int32)), (.int (0 : Int32)), (.int (0 : Int32)), (.int (0 : Int32)), (.int (0 : Int32)), (.int (0 : Int32)), (.int (0 : Int32)), (.int (0 : Int32)), (.int (0 : Int32)), (.int (0 : Int32)), (.int (0 : Int32)), (.int (0 : Int32)), (.int (0 : Int32)), (.int (0 : Int32)), (.int (0 : Int32)), (.int (0 : Int32))] (.int (0 : Int32)) := Arv.set Ar48 q48 S48 N48 H48 G48 rfl W48 0 rfl (Nat.le_of_ble_eq_true rfl)
  have V49 := V46.other W48 ne_b7_b45
  have N48' := Fr.snoc X48 N44' g_b45
  have EX48 : Ext h0 h48 := own_ext_wr EX45 W48 sz_b45
  obtain ⟨cl50, Ar50, q50, S50, N50, H50, G50⟩ := And.left ⟨V48, trivial⟩
  have hin50 : ¬ ((1 : Int32) < 0 ∨ cl50.slots.size ≤ ((1 : Int32)).toNatClampNeg) := inb_of S50 ⟨by decide, by decide⟩
  obtain ⟨T50, h50, X50, e50, W50, st50⟩ := stI X48 hx hZ e48 Ar50 (j := (1 : Int32)) hin50 (g := (mkF m 130 #[.val (.int p0), .val (.int p1), .val (.int p2), .val (.ref b7), .unset, .unset, .unset, .unset, .unset, .unset, .unset] [(.int (4 : Int32)), (.int (1 : Int32)), (.ref b45), (.ref b45)])) rfl rfl (hb hby at_130)
  have V50 : Arv Z h50 b45 k45 .int (17 : Int32) [(.int (3 : Int32)), (.int (4 : Int32)), (.int (0 : Int32)), (.int (0 : Int32)), (.int (0 : Int32)), (.int (0 : Int32)), (.int (0 : Int32)), (.int (0 : Int32)), (.int (0 : Int32)), (.int (0 : Int32)), (.int (0 : Int32)), (.int (0 : Int32)), (.int (0 : Int32)), (.int (0 : Int32)), (.int (0 : Int32)), (.int (0 : Int32)), (.int (0 : Int32))] (.int (0 : Int32)) := Arv.set Ar50 q50 S50 N50 H50 G50 rfl W50 1 rfl (Nat.le_of_ble_eq_true rfl)
  have V51 := V49.other W50 ne_b7_b45
  have N50' := Fr.snoc X50 N48' g_b45
  have EX50 : Ext h0 h50 := own_ext_wr EX48 W50 sz_b45
  obtain ⟨cl52, Ar52, q52, S52, N52, H52, G52⟩ := And.left ⟨V50, trivial⟩
  have hin52 : ¬ ((2 : Int32) < 0 ∨ cl52.slots.size ≤ ((2 : Int32)).toNatClampNeg) := inb_of S52 ⟨by decide, by decide⟩
  obtain ⟨T52, h52, X52, e52, W52, st52⟩ := stI X50 hx hZ e50 Ar52 (j := (2 : Int32)) hin52 (g := (mkF m 134 #[.val (.int p0), .val (.int p1), .val (.int p2), .val (.ref b7), .unset, .unset, .unset, .unset, .unset, .unset, .unset] [(.int (2 : Int32)), (.int (2 : Int32)), (.ref b45), (.ref b45)])) rfl rfl (hb hby at_134)
  have V52 : Arv Z h52 b45 k45 .int (17 : Int32) [(.int (3 : Int32)), (.int (4 : Int32)), (.int (2 : Int32)), (.int (0 : Int32)), (.int (0 : Int32)), (.int (0 : Int32)), (.int (0 : Int32)), (.int (0 : Int32)), (.int (0 : Int32)), (.int (0 : Int32)), (.int (0 : Int32)), (.int (0 : Int32)), (.int (0 : Int32)), (.int (0 : Int32)), (.int (0 : Int32)), (.int (0 : Int32)), (.int (0 : Int32))] (.int (0 : Int32)) := Arv.set Ar52 q52 S52 N52 H52 G52 rfl W52 2 rfl (Nat.le_of_ble_eq_true rfl)
  have V53 := V51.other W52 ne_b7_b45
  have N52' := Fr.snoc X52 N50' g_b45
  have EX52 : Ext h0 h52 := own_ext_wr EX50 W52 sz_b45
  obtain ⟨cl54, Ar54, q54, S54, N54, H54, G54⟩ := And.left ⟨V52, trivial⟩
  have hin54 : ¬ ((3 : Int32) < 0 ∨ cl54.slots.size ≤ ((3 : Int32)).toNatClampNeg) := inb_of S54 ⟨by decide, by decide⟩
  obtain ⟨T54, h54, X54, e54, W54, st54⟩ := stI X52 hx hZ e52 Ar54 (j := (3 : Int32)) hin54 (g := (mkF m 138 #[.val (.int p0), .val (.int p1), .val (.int p2), .val (.ref b7), .unset, .unset, .unset, .unset, .unset, .unset, .unset] [(.int (4 : Int32)), (.int (3 : Int32)), (.ref b45), (.ref b45)])) rfl rfl (hb hby at_138)
  have V54 : Arv Z h54 b45 k45 .int (17 : Int32) [(.int (3 : Int32)), (.int (4 : Int32)), (.int (2 : Int32)), (.int (4 : Int32)), (.int (0 : Int32)), (.int (0 : Int32)), (.int (0 : Int32)), (.int (0 : Int32)), (.int (0 : Int32)), (.int (0 : Int32)), (.int (0 : Int32)), (.int (0 : Int32)), (.int (0 : Int32)), (.int (0 : Int32)), (.int (0 : Int32)), (.int (0 : Int32)), (.int (0 : Int32))] (.int (0 : Int32)) := Arv.set Ar54 q54 S54 N54 H54 G54 rfl W54 3 rfl (Nat.le_of_ble_eq_true rfl)
  have V55 := V53.other W54 ne_b7_b45
  have N54' := Fr.snoc X54 N52' g_b45
  have EX54 : Ext h0 h54 := own_ext_wr EX52 W54 sz_b45
  obtain ⟨cl56, Ar56, q56, S56, N56, H56, G56⟩ := And.left ⟨V54, trivial⟩
  have hin56 : ¬ ((4 : Int32) < 0 ∨ cl56.slots.size ≤ ((4 : Int32)).toNatClampNeg) := inb_of S56 ⟨by decide, by decide⟩
  obtain ⟨T56, h56, X56, e56, W56, st56⟩ := stI X54 hx hZ e54 Ar56 (j := (4 : Int32)) hin56 (g := (mkF m 143 #[.val (.int p0), .val (.int p1), .val (.int p2), .val (.ref b7), .unset, .unset, .unset, .unset, .unset, .unset, .unset] [(.int (7 : Int32)), (.int (4 : Int32)), (.ref b45), (.ref b45)])) rfl rfl (hb hby at_143)
  have V56 : Arv Z h56 b45 k45 .int (17 : Int32) [(.int (3 : Int32)), (.int (4 : Int32)), (.int (2 : Int32)), (.int (4 : Int32)), (.int (7 : Int32)), (.int (0 : Int32)), (.int (0 : Int32)), (.int (0 : Int32)), (.int (0 : Int32)), (.int (0 : Int32)), (.int (0 : Int32)), (.int (0 : Int32)), (.int (0 : Int32)), (.int (0 : Int32)), (.int (0 : Int32)), (.int (0 : Int32)), (.int (0 : Int32))] (.int (0 : Int32)) := Arv.set Ar56 q56 S56 N56 H56 G56 rfl W56 4 rfl (Nat.le_of_ble_eq_true rfl)
  have V57 := V55.other W56 ne_b7_b45
  have N56' := Fr.snoc X56 N54' g_b45
  have EX56 : Ext h0 h56 := own_ext_wr EX54 W56 sz_b45
  have k58 : ∀ t, Steps p.tables e below (T56.setTop (mkF m 146 #[.val (.int p0), .val (.int p1), .val (.int p2), .val (.ref b7), .unset, .unset, .unset, .unset, .unset, .unset, .unset] [(.int (5 : Int32)), (.ref b45), (.ref b45)])) t → Steps p.tables e below (s₁.setTop (entryFrame m #[(.int p0), (.int p1), (.int p2)] maxLocals)) t := fun t kt => k47 t (by
    show Steps p.tables e below (T45.setTop (mkF m 126 #[.val (.int p0), .val (.int p1), .val (.int p2), .val (.ref b7), .unset, .unset, .unset, .unset, .unset, .unset, .unset] [(.int (3 : Int32)), (.int (0 : Int32)), (.ref b45), (.ref b45)])) _
    refine st48 _ ?_
    show Steps p.tables e below (T48.setTop (mkF m 127 #[.val (.int p0), .val (.int p1), .val (.int p2), .val (.ref b7), .unset, .unset, .unset, .unset, .unset, .unset, .unset] [(.ref b45)])) _
    refine XS.dup X48.here hx rfl (hb hby at_127) rfl rfl ?_
    show Steps p.tables e below (T48.setTop (mkF m 128 #[.val (.int p0), .val (.int p1), .val (.int p2), .val (.ref b7), .unset, .unset, .unset, .unset, .unset, .unset, .unset] [(.ref b45), (.ref b45)])) _
    refine XS.iconst X48.here hx rfl (hb hby at_128) ?_
    show Steps p.tables e below (T48.setTop (mkF m 129 #[.val (.int p0), .val (.int p1), .val (.int p2), .val (.ref b7), .unset, .unset, .unset, .unset, .unset, .unset, .unset] [(.int (1 : Int32)), (.ref b45), (.ref b45)])) _
    refine XS.iconst X48.here hx rfl (hb hby at_129) ?_
    show Steps p.tables e below (T48.setTop (mkF m 130 #[.val (.int p0), .val (.int p1), .val (.int p2), .val (.ref b7), .unset, .unset, .unset, .unset, .unset, .unset, .unset] [(.int (4 : Int32)), (.int (1 : Int32)), (.ref b45), (.ref b45)])) _
    refine st50 _ ?_
    show Steps p.tables e below (T50.setTop (mkF m 131 #[.val (.int p0), .val (.int p1), .val (.int p2), .val (.ref b7), .unset, .unset, .unset, .unset, .unset, .unset, .unset] [(.ref b45)])) _
    refine XS.dup X50.here hx rfl (hb hby at_131) rfl rfl ?_
    show Steps p.tables e below (T50.setTop (mkF m 132 #[.val (.int p0), .val (.int p1), .val (.int p2), .val (.ref b7), .unset, .unset, .unset, .unset, .unset, .unset, .unset] [(.ref b45), (.ref b45)])) _
    refine XS.iconst X50.here hx rfl (hb hby at_132) ?_
    show Steps p.tables e below (T50.setTop (mkF m 133 #[.val (.int p0), .val (.int p1), .val (.int p2), .val (.ref b7), .unset, .unset, .unset, .unset, .unset, .unset, .unset] [(.int (2 : Int32)), (.ref b45), (.ref b45)])) _
    refine XS.iconst X50.here hx rfl (hb hby at_133) ?_
    show Steps p.tables e below (T50.setTop (mkF m 134 #[.val (.int p0), .val (.int p1), .val (.int p2), .val (.ref b7), .unset, .unset, .unset, .unset, .unset, .unset, .unset] [(.int (2 : Int32)), (.int (2 : Int32)), (.ref b45), (.ref b45)])) _
    refine st52 _ ?_
    show Steps p.tables e below (T52.setTop (mkF m 135 #[.val (.int p0), .val (.int p1), .val (.int p2), .val (.ref b7), .unset, .unset, .unset, .unset, .unset, .unset, .unset] [(.ref b45)])) _
    refine XS.dup X52.here hx rfl (hb hby at_135) rfl rfl ?_
    show Steps p.tables e below (T52.setTop (mkF m 136 #[.val (.int p0), .val (.int p1), .val (.int p2), .val (.ref b7), .unset, .unset, .unset, .unset, .unset, .unset, .unset] [(.ref b45), (.ref b45)])) _
    refine XS.iconst X52.here hx rfl (hb hby at_136) ?_
    show Steps p.tables e below (T52.setTop (mkF m 137 #[.val (.int p0), .val (.int p1), .val (.int p2), .val (.ref b7), .unset, .unset, .unset, .unset, .unset, .unset, .unset] [(.int (3 : Int32)), (.ref b45), (.ref b45)])) _
    refine XS.iconst X52.here hx rfl (hb hby at_137) ?_
    show Steps p.tables e below (T52.setTop (mkF m 138 #[.val (.int p0), .val (.int p1), .val (.int p2), .val (.ref b7), .unset, .unset, .unset, .unset, .unset, .unset, .unset] [(.int (4 : Int32)), (.int (3 : Int32)), (.ref b45), (.ref b45)])) _
    refine st54 _ ?_
    show Steps p.tables e below (T54.setTop (mkF m 139 #[.val (.int p0), .val (.int p1), .val (.int p2), .val (.ref b7), .unset, .unset, .unset, .unset, .unset, .unset, .unset] [(.ref b45)])) _
    refine XS.dup X54.here hx rfl (hb hby at_139) rfl rfl ?_
    show Steps p.tables e below (T54.setTop (mkF m 140 #[.val (.int p0), .val (.int p1), .val (.int p2), .val (.ref b7), .unset, .unset, .unset, .unset, .unset, .unset, .unset] [(.ref b45), (.ref b45)])) _
    refine XS.iconst X54.here hx rfl (hb hby at_140) ?_
    show Steps p.tables e below (T54.setTop (mkF m 141 #[.val (.int p0), .val (.int p1), .val (.int p2), .val (.ref b7), .unset, .unset, .unset, .unset, .unset, .unset, .unset] [(.int (4 : Int32)), (.ref b45), (.ref b45)])) _
    refine XS.bipush X54.here hx rfl (hb hby at_141) ?_
    show Steps p.tables e below (T54.setTop (mkF m 143 #[.val (.int p0), .val (.int p1), .val (.int p2), .val (.ref b7), .unset, .unset, .unset, .unset, .unset, .unset, .unset] [(.int (7 : Int32)), (.int (4 : Int32)), (.ref b45), (.ref b45)])) _
    refine st56 _ ?_
    show Steps p.tables e below (T56.setTop (mkF m 144 #[.val (.int p0), .val (.int p1), .val (.int p2), .val (.ref b7), .unset, .unset, .unset, .unset, .unset, .unset, .unset] [(.ref b45)])) _
    refine XS.dup X56.here hx rfl (hb hby at_144) rfl rfl ?_
    show Steps p.tables e below (T56.setTop (mkF m 145 #[.val (.int p0), .val (.int p1), .val (.int p2), .val (.ref b7), .unset, .unset, .unset, .unset, .unset, .unset, .unset] [(.ref b45), (.ref b45)])) _
    refine XS.iconst X56.here hx rfl (hb hby at_145) ?_
    exact kt)
  obtain ⟨cl59, Ar59, q59, S59, N59, H59, G59⟩ := And.left ⟨V56, trivial⟩
  have hin59 : ¬ ((5 : Int32) < 0 ∨ cl59.slots.size ≤ ((5 : Int32)).toNatClampNeg) := inb_of S59 ⟨by decide, by decide⟩
  obtain ⟨T59, h59, X59, e59, W59, st59⟩ := stI X56 hx hZ e56 Ar59 (j := (5 : Int32)) hin59 (g := (mkF m 148 #[.val (.int p0), .val (.int p1), .val (.int p2), .val (.ref b7), .unset, .unset, .unset, .unset, .unset, .unset, .unset] [(.int (7 : Int32)), (.int (5 : Int32)), (.ref b45), (.ref b45)])) rfl rfl (hb hby at_148)
  have V59 : Arv Z h59 b45 k45 .int (17 : Int32) [(.int (3 : Int32)), (.int (4 : Int32)), (.int (2 : Int32)), (.int (4 : Int32)), (.int (7 : Int32)), (.int (7 : Int32)), (.int (0 : Int32)), (.int (0 : Int32)), (.int (0 : Int32)), (.int (0 : Int32)), (.int (0 : Int32)), (.int (0 : Int32)), (.int (0 : Int32)), (.int (0 : Int32)), (.int (0 : Int32)), (.int (0 : Int32)), (.int (0 : Int32))] (.int (0 : Int32)) := Arv.set Ar59 q59 S59 N59 H59 G59 rfl W59 5 rfl (Nat.le_of_ble_eq_true rfl)
  have V60 := V57.other W59 ne_b7_b45
  have N59' := Fr.snoc X59 N56' g_b45
  have EX59 : Ext h0 h59 := own_ext_wr EX56 W59 sz_b45
  obtain ⟨cl61, Ar61, q61, S61, N61, H61, G61⟩ := And.left ⟨V59, trivial⟩
  have hin61 : ¬ ((6 : Int32) < 0 ∨ cl61.slots.size ≤ ((6 : Int32)).toNatClampNeg) := inb_of S61 ⟨by decide, by decide⟩
  obtain ⟨T61, h61, X61, e61, W61, st61⟩ := stI X59 hx hZ e59 Ar61 (j := (6 : Int32)) hin61 (g := (mkF m 153 #[.val (.int p0), .val (.int p1), .val (.int p2), .val (.ref b7), .unset, .unset, .unset, .unset, .unset, .unset, .unset] [(.int (0 : Int32)), (.int (6 : Int32)), (.ref b45), (.ref b45)])) rfl rfl (hb hby at_153)
  have V61 : Arv Z h61 b45 k45 .int (17 : Int32) [(.int (3 : Int32)), (.int (4 : Int32)), (.int (2 : Int32)), (.int (4 : Int32)), (.int (7 : Int32)), (.int (7 : Int32)), (.int (0 : Int32)), (.int (0 : Int32)), (.int (0 : Int32)), (.int (0 : Int32)), (.int (0 : Int32)), (.int (0 : Int32)), (.int (0 : Int32)), (.int (0 : Int32)), (.int (0 : Int32)), (.int (0 : Int32)), (.int (0 : Int32))] (.int (0 : Int32)) := Arv.set Ar61 q61 S61 N61 H61 G61 rfl W61 6 rfl (Nat.le_of_ble_eq_true rfl)
  have V62 := V60.other W61 ne_b7_b45
  have N61' := Fr.snoc X61 N59' g_b45
  have EX61 : Ext h0 h61 := own_ext_wr EX59 W61 sz_b45
  obtain ⟨cl63, Ar63, q63, S63, N63, H63, G63⟩ := And.left ⟨V61, trivial⟩
  have hin63 : ¬ ((7 : Int32) < 0 ∨ cl63.slots.size ≤ ((7 : Int32)).toNatClampNeg) := inb_of S63 ⟨by decide, by decide⟩
  obtain ⟨T63, h63, X63, e63, W63, st63⟩ := stI X61 hx hZ e61 Ar63 (j := (7 : Int32)) hin63 (g := (mkF m 158 #[.val (.int p0), .val (.int p1), .val (.int p2), .val (.ref b7), .unset, .unset, .unset, .unset, .unset, .unset, .unset] [(.int (5 : Int32)), (.int (7 : Int32)), (.ref b45), (.ref b45)])) rfl rfl (hb hby at_158)
  have V63 : Arv Z h63 b45 k45 .int (17 : Int32) [(.int (3 : Int32)), (.int (4 : Int32)), (.int (2 : Int32)), (.int (4 : Int32)), (.int (7 : Int32)), (.int (7 : Int32)), (.int (0 : Int32)), (.int (5 : Int32)), (.int (0 : Int32)), (.int (0 : Int32)), (.int (0 : Int32)), (.int (0 : Int32)), (.int (0 : Int32)), (.int (0 : Int32)), (.int (0 : Int32)), (.int (0 : Int32)), (.int (0 : Int32))] (.int (0 : Int32)) := Arv.set Ar63 q63 S63 N63 H63 G63 rfl W63 7 rfl (Nat.le_of_ble_eq_true rfl)
  have V64 := V62.other W63 ne_b7_b45
  have N63' := Fr.snoc X63 N61' g_b45
  have EX63 : Ext h0 h63 := own_ext_wr EX61 W63 sz_b45
  obtain ⟨cl65, Ar65, q65, S65, N65, H65, G65⟩ := And.left ⟨V63, trivial⟩
  have hin65 : ¬ ((8 : Int32) < 0 ∨ cl65.slots.size ≤ ((8 : Int32)).toNatClampNeg) := inb_of S65 ⟨by decide, by decide⟩
  obtain ⟨T65, h65, X65, e65, W65, st65⟩ := stI X63 hx hZ e63 Ar65 (j := (8 : Int32)) hin65 (g := (mkF m 163 #[.val (.int p0), .val (.int p1), .val (.int p2), .val (.ref b7), .unset, .unset, .unset, .unset, .unset, .unset, .unset] [(.int (3 : Int32)), (.int (8 : Int32)), (.ref b45), (.ref b45)])) rfl rfl (hb hby at_163)
  have V65 : Arv Z h65 b45 k45 .int (17 : Int32) [(.int (3 : Int32)), (.int (4 : Int32)), (.int (2 : Int32)), (.int (4 : Int32)), (.int (7 : Int32)), (.int (7 : Int32)), (.int (0 : Int32)), (.int (5 : Int32)), (.int (3 : Int32)), (.int (0 : Int32)), (.int (0 : Int32)), (.int (0 : Int32)), (.int (0 : Int32)), (.int (0 : Int32)), (.int (0 : Int32)), (.int (0 : Int32)), (.int (0 : Int32))] (.int (0 : Int32)) := Arv.set Ar65 q65 S65 N65 H65 G65 rfl W65 8 rfl (Nat.le_of_ble_eq_true rfl)
  have V66 := V64.other W65 ne_b7_b45
  have N65' := Fr.snoc X65 N63' g_b45
  have EX65 : Ext h0 h65 := own_ext_wr EX63 W65 sz_b45
  obtain ⟨cl67, Ar67, q67, S67, N67, H67, G67⟩ := And.left ⟨V65, trivial⟩
  have hin67 : ¬ ((9 : Int32) < 0 ∨ cl67.slots.size ≤ ((9 : Int32)).toNatClampNeg) := inb_of S67 ⟨by decide, by decide⟩
  obtain ⟨T67, h67, X67, e67, W67, st67⟩ := stI X65 hx hZ e65 Ar67 (j := (9 : Int32)) hin67 (g := (mkF m 168 #[.val (.int p0), .val (.int p1), .val (.int p2), .val (.ref b7), .unset, .unset, .unset, .unset, .unset, .unset, .unset] [(.int (1 : Int32)), (.int (9 : Int32)), (.ref b45), (.ref b45)])) rfl rfl (hb hby at_168)
  have V67 : Arv Z h67 b45 k45 .int (17 : Int32) [(.int (3 : Int32)), (.int (4 : Int32)), (.int (2 : Int32)), (.int (4 : Int32)), (.int (7 : Int32)), (.int (7 : Int32)), (.int (0 : Int32)), (.int (5 : Int32)), (.int (3 : Int32)), (.int (1 : Int32)), (.int (0 : Int32)), (.int (0 : Int32)), (.int (0 : Int32)), (.int (0 : Int32)), (.int (0 : Int32)), (.int (0 : Int32)), (.int (0 : Int32))] (.int (0 : Int32)) := Arv.set Ar67 q67 S67 N67 H67 G67 rfl W67 9 rfl (Nat.le_of_ble_eq_true rfl)
  have V68 := V66.other W67 ne_b7_b45
  have N67' := Fr.snoc X67 N65' g_b45
  have EX67 : Ext h0 h67 := own_ext_wr EX65 W67 sz_b45
  have k69 : ∀ t, Steps p.tables e below (T67.setTop (mkF m 170 #[.val (.int p0), .val (.int p1), .val (.int p2), .val (.ref b7), .unset, .unset, .unset, .unset, .unset, .unset, .unset] [(.ref b45), (.ref b45)])) t → Steps p.tables e below (s₁.setTop (entryFrame m #[(.int p0), (.int p1), (.int p2)] maxLocals)) t := fun t kt => k58 t (by
    show Steps p.tables e below (T56.setTop (mkF m 146 #[.val (.int p0), .val (.int p1), .val (.int p2), .val (.ref b7), .unset, .unset, .unset, .unset, .unset, .unset, .unset] [(.int (5 : Int32)), (.ref b45), (.ref b45)])) _
    refine XS.bipush X56.here hx rfl (hb hby at_146) ?_
    show Steps p.tables e below (T56.setTop (mkF m 148 #[.val (.int p0), .val (.int p1), .val (.int p2), .val (.ref b7), .unset, .unset, .unset, .unset, .unset, .unset, .unset] [(.int (7 : Int32)), (.int (5 : Int32)), (.ref b45), (.ref b45)])) _
    refine st59 _ ?_
    show Steps p.tables e below (T59.setTop (mkF m 149 #[.val (.int p0), .val (.int p1), .val (.int p2), .val (.ref b7), .unset, .unset, .unset, .unset, .unset, .unset, .unset] [(.ref b45)])) _
    refine XS.dup X59.here hx rfl (hb hby at_149) rfl rfl ?_
    show Steps p.tables e below (T59.setTop (mkF m 150 #[.val (.int p0), .val (.int p1), .val (.int p2), .val (.ref b7), .unset, .unset, .unset, .unset, .unset, .unset, .unset] [(.ref b45), (.ref b45)])) _
    refine XS.bipush X59.here hx rfl (hb hby at_150) ?_
    show Steps p.tables e below (T59.setTop (mkF m 152 #[.val (.int p0), .val (.int p1), .val (.int p2), .val (.ref b7), .unset, .unset, .unset, .unset, .unset, .unset, .unset] [(.int (6 : Int32)), (.ref b45), (.ref b45)])) _
    refine XS.iconst X59.here hx rfl (hb hby at_152) ?_
    show Steps p.tables e below (T59.setTop (mkF m 153 #[.val (.int p0), .val (.int p1), .val (.int p2), .val (.ref b7), .unset, .unset, .unset, .unset, .unset, .unset, .unset] [(.int (0 : Int32)), (.int (6 : Int32)), (.ref b45), (.ref b45)])) _
    refine st61 _ ?_
    show Steps p.tables e below (T61.setTop (mkF m 154 #[.val (.int p0), .val (.int p1), .val (.int p2), .val (.ref b7), .unset, .unset, .unset, .unset, .unset, .unset, .unset] [(.ref b45)])) _
    refine XS.dup X61.here hx rfl (hb hby at_154) rfl rfl ?_
    show Steps p.tables e below (T61.setTop (mkF m 155 #[.val (.int p0), .val (.int p1), .val (.int p2), .val (.ref b7), .unset, .unset, .unset, .unset, .unset, .unset, .unset] [(.ref b45), (.ref b45)])) _
    refine XS.bipush X61.here hx rfl (hb hby at_155) ?_
    show Steps p.tables e below (T61.setTop (mkF m 157 #[.val (.int p0), .val (.int p1), .val (.int p2), .val (.ref b7), .unset, .unset, .unset, .unset, .unset, .unset, .unset] [(.int (7 : Int32)), (.ref b45), (.ref b45)])) _
    refine XS.iconst X61.here hx rfl (hb hby at_157) ?_
    show Steps p.tables e below (T61.setTop (mkF m 158 #[.val (.int p0), .val (.int p1), .val (.int p2), .val (.ref b7), .unset, .unset, .unset, .unset, .unset, .unset, .unset] [(.int (5 : Int32)), (.int (7 : Int32)), (.ref b45), (.ref b45)])) _
    refine st63 _ ?_
    show Steps p.tables e below (T63.setTop (mkF m 159 #[.val (.int p0), .val (.int p1), .val (.int p2), .val (.ref b7), .unset, .unset, .unset, .unset, .unset, .unset, .unset] [(.ref b45)])) _
    refine XS.dup X63.here hx rfl (hb hby at_159) rfl rfl ?_
    show Steps p.tables e below (T63.setTop (mkF m 160 #[.val (.int p0), .val (.int p1), .val (.int p2), .val (.ref b7), .unset, .unset, .unset, .unset, .unset, .unset, .unset] [(.ref b45), (.ref b45)])) _
    refine XS.bipush X63.here hx rfl (hb hby at_160) ?_
    show Steps p.tables e below (T63.setTop (mkF m 162 #[.val (.int p0), .val (.int p1), .val (.int p2), .val (.ref b7), .unset, .unset, .unset, .unset, .unset, .unset, .unset] [(.int (8 : Int32)), (.ref b45), (.ref b45)])) _
    refine XS.iconst X63.here hx rfl (hb hby at_162) ?_
    show Steps p.tables e below (T63.setTop (mkF m 163 #[.val (.int p0), .val (.int p1), .val (.int p2), .val (.ref b7), .unset, .unset, .unset, .unset, .unset, .unset, .unset] [(.int (3 : Int32)), (.int (8 : Int32)), (.ref b45), (.ref b45)])) _
    refine st65 _ ?_
    show Steps p.tables e below (T65.setTop (mkF m 164 #[.val (.int p0), .val (.int p1), .val (.int p2), .val (.ref b7), .unset, .unset, .unset, .unset, .unset, .unset, .unset] [(.ref b45)])) _
    refine XS.dup X65.here hx rfl (hb hby at_164) rfl rfl ?_
    show Steps p.tables e below (T65.setTop (mkF m 165 #[.val (.int p0), .val (.int p1), .val (.int p2), .val (.ref b7), .unset, .unset, .unset, .unset, .unset, .unset, .unset] [(.ref b45), (.ref b45)])) _
    refine XS.bipush X65.here hx rfl (hb hby at_165) ?_
    show Steps p.tables e below (T65.setTop (mkF m 167 #[.val (.int p0), .val (.int p1), .val (.int p2), .val (.ref b7), .unset, .unset, .unset, .unset, .unset, .unset, .unset] [(.int (9 : Int32)), (.ref b45), (.ref b45)])) _
    refine XS.iconst X65.here hx rfl (hb hby at_167) ?_
    show Steps p.tables e below (T65.setTop (mkF m 168 #[.val (.int p0), .val (.int p1), .val (.int p2), .val (.ref b7), .unset, .unset, .unset, .unset, .unset, .unset, .unset] [(.int (1 : Int32)), (.int (9 : Int32)), (.ref b45), (.ref b45)])) _
    refine st67 _ ?_
    show Steps p.tables e below (T67.setTop (mkF m 169 #[.val (.int p0), .val (.int p1), .val (.int p2), .val (.ref b7), .unset, .unset, .unset, .unset, .unset, .unset, .unset] [(.ref b45)])) _
    refine XS.dup X67.here hx rfl (hb hby at_169) rfl rfl ?_
    exact kt)
  obtain ⟨cl70, Ar70, q70, S70, N70, H70, G70⟩ := And.left ⟨V67, trivial⟩
  have hin70 : ¬ ((10 : Int32) < 0 ∨ cl70.slots.size ≤ ((10 : Int32)).toNatClampNeg) := inb_of S70 ⟨by decide, by decide⟩
  obtain ⟨T70, h70, X70, e70, W70, st70⟩ := stI X67 hx hZ e67 Ar70 (j := (10 : Int32)) hin70 (g := (mkF m 173 #[.val (.int p0), .val (.int p1), .val (.int p2), .val (.ref b7), .unset, .unset, .unset, .unset, .unset, .unset, .unset] [(.int (3 : Int32)), (.int (10 : Int32)), (.ref b45), (.ref b45)])) rfl rfl (hb hby at_173)
  have V70 : Arv Z h70 b45 k45 .int (17 : Int32) [(.int (3 : Int32)), (.int (4 : Int32)), (.int (2 : Int32)), (.int (4 : Int32)), (.int (7 : Int32)), (.int (7 : Int32)), (.int (0 : Int32)), (.int (5 : Int32)), (.int (3 : Int32)), (.int (1 : Int32)), (.int (3 : Int32)), (.int (0 : Int32)), (.int (0 : Int32)), (.int (0 : Int32)), (.int (0 : Int32)), (.int (0 : Int32)), (.int (0 : Int32))] (.int (0 : Int32)) := Arv.set Ar70 q70 S70 N70 H70 G70 rfl W70 10 rfl (Nat.le_of_ble_eq_true rfl)
  have V71 := V68.other W70 ne_b7_b45
  have N70' := Fr.snoc X70 N67' g_b45
  have EX70 : Ext h0 h70 := own_ext_wr EX67 W70 sz_b45
  obtain ⟨cl72, Ar72, q72, S72, N72, H72, G72⟩ := And.left ⟨V70, trivial⟩
  have hin72 : ¬ ((11 : Int32) < 0 ∨ cl72.slots.size ≤ ((11 : Int32)).toNatClampNeg) := inb_of S72 ⟨by decide, by decide⟩
  obtain ⟨T72, h72, X72, e72, W72, st72⟩ := stI X70 hx hZ e70 Ar72 (j := (11 : Int32)) hin72 (g := (mkF m 178 #[.val (.int p0), .val (.int p1), .val (.int p2), .val (.ref b7), .unset, .unset, .unset, .unset, .unset, .unset, .unset] [(.int (3 : Int32)), (.int (11 : Int32)), (.ref b45), (.ref b45)])) rfl rfl (hb hby at_178)
  have V72 : Arv Z h72 b45 k45 .int (17 : Int32) [(.int (3 : Int32)), (.int (4 : Int32)), (.int (2 : Int32)), (.int (4 : Int32)), (.int (7 : Int32)), (.int (7 : Int32)), (.int (0 : Int32)), (.int (5 : Int32)), (.int (3 : Int32)), (.int (1 : Int32)), (.int (3 : Int32)), (.int (3 : Int32)), (.int (0 : Int32)), (.int (0 : Int32)), (.int (0 : Int32)), (.int (0 : Int32)), (.int (0 : Int32))] (.int (0 : Int32)) := Arv.set Ar72 q72 S72 N72 H72 G72 rfl W72 11 rfl (Nat.le_of_ble_eq_true rfl)
  have V73 := V71.other W72 ne_b7_b45
  have N72' := Fr.snoc X72 N70' g_b45
  have EX72 : Ext h0 h72 := own_ext_wr EX70 W72 sz_b45
  obtain ⟨cl74, Ar74, q74, S74, N74, H74, G74⟩ := And.left ⟨V72, trivial⟩
  have hin74 : ¬ ((12 : Int32) < 0 ∨ cl74.slots.size ≤ ((12 : Int32)).toNatClampNeg) := inb_of S74 ⟨by decide, by decide⟩
  obtain ⟨T74, h74, X74, e74, W74, st74⟩ := stI X72 hx hZ e72 Ar74 (j := (12 : Int32)) hin74 (g := (mkF m 183 #[.val (.int p0), .val (.int p1), .val (.int p2), .val (.ref b7), .unset, .unset, .unset, .unset, .unset, .unset, .unset] [(.int (0 : Int32)), (.int (12 : Int32)), (.ref b45), (.ref b45)])) rfl rfl (hb hby at_183)
  have V74 : Arv Z h74 b45 k45 .int (17 : Int32) [(.int (3 : Int32)), (.int (4 : Int32)), (.int (2 : Int32)), (.int (4 : Int32)), (.int (7 : Int32)), (.int (7 : Int32)), (.int (0 : Int32)), (.int (5 : Int32)), (.int (3 : Int32)), (.int (1 : Int32)), (.int (3 : Int32)), (.int (3 : Int32)), (.int (0 : Int32)), (.int (0 : Int32)), (.int (0 : Int32)), (.int (0 : Int32)), (.int (0 : Int32))] (.int (0 : Int32)) := Arv.set Ar74 q74 S74 N74 H74 G74 rfl W74 12 rfl (Nat.le_of_ble_eq_true rfl)
  have V75 := V73.other W74 ne_b7_b45
  have N74' := Fr.snoc X74 N72' g_b45
  have EX74 : Ext h0 h74 := own_ext_wr EX72 W74 sz_b45
  obtain ⟨cl76, Ar76, q76, S76, N76, H76, G76⟩ := And.left ⟨V74, trivial⟩
  have hin76 : ¬ ((13 : Int32) < 0 ∨ cl76.slots.size ≤ ((13 : Int32)).toNatClampNeg) := inb_of S76 ⟨by decide, by decide⟩
  obtain ⟨T76, h76, X76, e76, W76, st76⟩ := stI X74 hx hZ e74 Ar76 (j := (13 : Int32)) hin76 (g := (mkF m 188 #[.val (.int p0), .val (.int p1), .val (.int p2), .val (.ref b7), .unset, .unset, .unset, .unset, .unset, .unset, .unset] [(.int (0 : Int32)), (.int (13 : Int32)), (.ref b45), (.ref b45)])) rfl rfl (hb hby at_188)
  have V76 : Arv Z h76 b45 k45 .int (17 : Int32) [(.int (3 : Int32)), (.int (4 : Int32)), (.int (2 : Int32)), (.int (4 : Int32)), (.int (7 : Int32)), (.int (7 : Int32)), (.int (0 : Int32)), (.int (5 : Int32)), (.int (3 : Int32)), (.int (1 : Int32)), (.int (3 : Int32)), (.int (3 : Int32)), (.int (0 : Int32)), (.int (0 : Int32)), (.int (0 : Int32)), (.int (0 : Int32)), (.int (0 : Int32))] (.int (0 : Int32)) := Arv.set Ar76 q76 S76 N76 H76 G76 rfl W76 13 rfl (Nat.le_of_ble_eq_true rfl)
  have V77 := V75.other W76 ne_b7_b45
  have N76' := Fr.snoc X76 N74' g_b45
  have EX76 : Ext h0 h76 := own_ext_wr EX74 W76 sz_b45
  obtain ⟨cl78, Ar78, q78, S78, N78, H78, G78⟩ := And.left ⟨V76, trivial⟩
  have hin78 : ¬ ((14 : Int32) < 0 ∨ cl78.slots.size ≤ ((14 : Int32)).toNatClampNeg) := inb_of S78 ⟨by decide, by decide⟩
  obtain ⟨T78, h78, X78, e78, W78, st78⟩ := stI X76 hx hZ e76 Ar78 (j := (14 : Int32)) hin78 (g := (mkF m 193 #[.val (.int p0), .val (.int p1), .val (.int p2), .val (.ref b7), .unset, .unset, .unset, .unset, .unset, .unset, .unset] [(.int (0 : Int32)), (.int (14 : Int32)), (.ref b45), (.ref b45)])) rfl rfl (hb hby at_193)
  have V78 : Arv Z h78 b45 k45 .int (17 : Int32) [(.int (3 : Int32)), (.int (4 : Int32)), (.int (2 : Int32)), (.int (4 : Int32)), (.int (7 : Int32)), (.int (7 : Int32)), (.int (0 : Int32)), (.int (5 : Int32)), (.int (3 : Int32)), (.int (1 : Int32)), (.int (3 : Int32)), (.int (3 : Int32)), (.int (0 : Int32)), (.int (0 : Int32)), (.int (0 : Int32)), (.int (0 : Int32)), (.int (0 : Int32))] (.int (0 : Int32)) := Arv.set Ar78 q78 S78 N78 H78 G78 rfl W78 14 rfl (Nat.le_of_ble_eq_true rfl)
  have V79 := V77.other W78 ne_b7_b45
  have N78' := Fr.snoc X78 N76' g_b45
  have EX78 : Ext h0 h78 := own_ext_wr EX76 W78 sz_b45
  have k80 : ∀ t, Steps p.tables e below (T78.setTop (mkF m 194 #[.val (.int p0), .val (.int p1), .val (.int p2), .val (.ref b7), .unset, .unset, .unset, .unset, .unset, .unset, .unset] [(.ref b45)])) t → Steps p.tables e below (s₁.setTop (entryFrame m #[(.int p0), (.int p1), (.int p2)] maxLocals)) t := fun t kt => k69 t (by
    show Steps p.tables e below (T67.setTop (mkF m 170 #[.val (.int p0), .val (.int p1), .val (.int p2), .val (.ref b7), .unset, .unset, .unset, .unset, .unset, .unset, .unset] [(.ref b45), (.ref b45)])) _
    refine XS.bipush X67.here hx rfl (hb hby at_170) ?_
    show Steps p.tables e below (T67.setTop (mkF m 172 #[.val (.int p0), .val (.int p1), .val (.int p2), .val (.ref b7), .unset, .unset, .unset, .unset, .unset, .unset, .unset] [(.int (10 : Int32)), (.ref b45), (.ref b45)])) _
    refine XS.iconst X67.here hx rfl (hb hby at_172) ?_
    show Steps p.tables e below (T67.setTop (mkF m 173 #[.val (.int p0), .val (.int p1), .val (.int p2), .val (.ref b7), .unset, .unset, .unset, .unset, .unset, .unset, .unset] [(.int (3 : Int32)), (.int (10 : Int32)), (.ref b45), (.ref b45)])) _
    refine st70 _ ?_
    show Steps p.tables e below (T70.setTop (mkF m 174 #[.val (.int p0), .val (.int p1), .val (.int p2), .val (.ref b7), .unset, .unset, .unset, .unset, .unset, .unset, .unset] [(.ref b45)])) _
    refine XS.dup X70.here hx rfl (hb hby at_174) rfl rfl ?_
    show Steps p.tables e below (T70.setTop (mkF m 175 #[.val (.int p0), .val (.int p1), .val (.int p2), .val (.ref b7), .unset, .unset, .unset, .unset, .unset, .unset, .unset] [(.ref b45), (.ref b45)])) _
    refine XS.bipush X70.here hx rfl (hb hby at_175) ?_
    show Steps p.tables e below (T70.setTop (mkF m 177 #[.val (.int p0), .val (.int p1), .val (.int p2), .val (.ref b7), .unset, .unset, .unset, .unset, .unset, .unset, .unset] [(.int (11 : Int32)), (.ref b45), (.ref b45)])) _
    refine XS.iconst X70.here hx rfl (hb hby at_177) ?_
    show Steps p.tables e below (T70.setTop (mkF m 178 #[.val (.int p0), .val (.int p1), .val (.int p2), .val (.ref b7), .unset, .unset, .unset, .unset, .unset, .unset, .unset] [(.int (3 : Int32)), (.int (11 : Int32)), (.ref b45), (.ref b45)])) _
    refine st72 _ ?_
    show Steps p.tables e below (T72.setTop (mkF m 179 #[.val (.int p0), .val (.int p1), .val (.int p2), .val (.ref b7), .unset, .unset, .unset, .unset, .unset, .unset, .unset] [(.ref b45)])) _
    refine XS.dup X72.here hx rfl (hb hby at_179) rfl rfl ?_
    show Steps p.tables e below (T72.setTop (mkF m 180 #[.val (.int p0), .val (.int p1), .val (.int p2), .val (.ref b7), .unset, .unset, .unset, .unset, .unset, .unset, .unset] [(.ref b45), (.ref b45)])) _
    refine XS.bipush X72.here hx rfl (hb hby at_180) ?_
    show Steps p.tables e below (T72.setTop (mkF m 182 #[.val (.int p0), .val (.int p1), .val (.int p2), .val (.ref b7), .unset, .unset, .unset, .unset, .unset, .unset, .unset] [(.int (12 : Int32)), (.ref b45), (.ref b45)])) _
    refine XS.iconst X72.here hx rfl (hb hby at_182) ?_
    show Steps p.tables e below (T72.setTop (mkF m 183 #[.val (.int p0), .val (.int p1), .val (.int p2), .val (.ref b7), .unset, .unset, .unset, .unset, .unset, .unset, .unset] [(.int (0 : Int32)), (.int (12 : Int32)), (.ref b45), (.ref b45)])) _
    refine st74 _ ?_
    show Steps p.tables e below (T74.setTop (mkF m 184 #[.val (.int p0), .val (.int p1), .val (.int p2), .val (.ref b7), .unset, .unset, .unset, .unset, .unset, .unset, .unset] [(.ref b45)])) _
    refine XS.dup X74.here hx rfl (hb hby at_184) rfl rfl ?_
    show Steps p.tables e below (T74.setTop (mkF m 185 #[.val (.int p0), .val (.int p1), .val (.int p2), .val (.ref b7), .unset, .unset, .unset, .unset, .unset, .unset, .unset] [(.ref b45), (.ref b45)])) _
    refine XS.bipush X74.here hx rfl (hb hby at_185) ?_
    show Steps p.tables e below (T74.setTop (mkF m 187 #[.val (.int p0), .val (.int p1), .val (.int p2), .val (.ref b7), .unset, .unset, .unset, .unset, .unset, .unset, .unset] [(.int (13 : Int32)), (.ref b45), (.ref b45)])) _
    refine XS.iconst X74.here hx rfl (hb hby at_187) ?_
    show Steps p.tables e below (T74.setTop (mkF m 188 #[.val (.int p0), .val (.int p1), .val (.int p2), .val (.ref b7), .unset, .unset, .unset, .unset, .unset, .unset, .unset] [(.int (0 : Int32)), (.int (13 : Int32)), (.ref b45), (.ref b45)])) _
    refine st76 _ ?_
    show Steps p.tables e below (T76.setTop (mkF m 189 #[.val (.int p0), .val (.int p1), .val (.int p2), .val (.ref b7), .unset, .unset, .unset, .unset, .unset, .unset, .unset] [(.ref b45)])) _
    refine XS.dup X76.here hx rfl (hb hby at_189) rfl rfl ?_
    show Steps p.tables e below (T76.setTop (mkF m 190 #[.val (.int p0), .val (.int p1), .val (.int p2), .val (.ref b7), .unset, .unset, .unset, .unset, .unset, .unset, .unset] [(.ref b45), (.ref b45)])) _
    refine XS.bipush X76.here hx rfl (hb hby at_190) ?_
    show Steps p.tables e below (T76.setTop (mkF m 192 #[.val (.int p0), .val (.int p1), .val (.int p2), .val (.ref b7), .unset, .unset, .unset, .unset, .unset, .unset, .unset] [(.int (14 : Int32)), (.ref b45), (.ref b45)])) _
    refine XS.iconst X76.here hx rfl (hb hby at_192) ?_
    show Steps p.tables e below (T76.setTop (mkF m 193 #[.val (.int p0), .val (.int p1), .val (.int p2), .val (.ref b7), .unset, .unset, .unset, .unset, .unset, .unset, .unset] [(.int (0 : Int32)), (.int (14 : Int32)), (.ref b45), (.ref b45)])) _
    refine st78 _ ?_
    exact kt)
  obtain ⟨cl81, Ar81, q81, S81, N81, H81, G81⟩ := And.left ⟨V78, trivial⟩
  have hin81 : ¬ ((15 : Int32) < 0 ∨ cl81.slots.size ≤ ((15 : Int32)).toNatClampNeg) := inb_of S81 ⟨by decide, by decide⟩
  obtain ⟨T81, h81, X81, e81, W81, st81⟩ := stI X78 hx hZ e78 Ar81 (j := (15 : Int32)) hin81 (g := (mkF m 198 #[.val (.int p0), .val (.int p1), .val (.int p2), .val (.ref b7), .unset, .unset, .unset, .unset, .unset, .unset, .unset] [(.int (1 : Int32)), (.int (15 : Int32)), (.ref b45), (.ref b45)])) rfl rfl (hb hby at_198)
  have V81 : Arv Z h81 b45 k45 .int (17 : Int32) [(.int (3 : Int32)), (.int (4 : Int32)), (.int (2 : Int32)), (.int (4 : Int32)), (.int (7 : Int32)), (.int (7 : Int32)), (.int (0 : Int32)), (.int (5 : Int32)), (.int (3 : Int32)), (.int (1 : Int32)), (.int (3 : Int32)), (.int (3 : Int32)), (.int (0 : Int32)), (.int (0 : Int32)), (.int (0 : Int32)), (.int (1 : Int32)), (.int (0 : Int32))] (.int (0 : Int32)) := Arv.set Ar81 q81 S81 N81 H81 G81 rfl W81 15 rfl (Nat.le_of_ble_eq_true rfl)
  have V82 := V79.other W81 ne_b7_b45
  have N81' := Fr.snoc X81 N78' g_b45
  have EX81 : Ext h0 h81 := own_ext_wr EX78 W81 sz_b45
  obtain ⟨cl83, Ar83, q83, S83, N83, H83, G83⟩ := And.left ⟨V81, trivial⟩
  have hin83 : ¬ ((16 : Int32) < 0 ∨ cl83.slots.size ≤ ((16 : Int32)).toNatClampNeg) := inb_of S83 ⟨by decide, by decide⟩
  obtain ⟨T83, h83, X83, e83, W83, st83⟩ := stI X81 hx hZ e81 Ar83 (j := (16 : Int32)) hin83 (g := (mkF m 203 #[.val (.int p0), .val (.int p1), .val (.int p2), .val (.ref b7), .unset, .unset, .unset, .unset, .unset, .unset, .unset] [(.int (3 : Int32)), (.int (16 : Int32)), (.ref b45), (.ref b45)])) rfl rfl (hb hby at_203)
  have V83 : Arv Z h83 b45 k45 .int (17 : Int32) [(.int (3 : Int32)), (.int (4 : Int32)), (.int (2 : Int32)), (.int (4 : Int32)), (.int (7 : Int32)), (.int (7 : Int32)), (.int (0 : Int32)), (.int (5 : Int32)), (.int (3 : Int32)), (.int (1 : Int32)), (.int (3 : Int32)), (.int (3 : Int32)), (.int (0 : Int32)), (.int (0 : Int32)), (.int (0 : Int32)), (.int (1 : Int32)), (.int (3 : Int32))] (.int (0 : Int32)) := Arv.set Ar83 q83 S83 N83 H83 G83 rfl W83 16 rfl (Nat.le_of_ble_eq_true rfl)
  have V84 := V82.other W83 ne_b7_b45
  have N83' := Fr.snoc X83 N81' g_b45
  have EX83 : Ext h0 h83 := own_ext_wr EX81 W83 sz_b45
  obtain ⟨T85, h85, k85, X85, e85, E85, A85, st85⟩ := newP X83 hx hZ (hw _ (List.mem_of_getElem? (i := 38) rfl)) e83 (g := (mkF m 208 #[.val (.int p0), .val (.int p1), .val (.int p2), .val (.ref b7), .val (.ref b45), .unset, .unset, .unset, .unset, .unset, .unset] [(.int (17 : Int32))])) rfl (hb hby at_208) rfl (by decide) (cap := 17) (by decide) (by decide) (by decide) (by decide)
  obtain ⟨b85, g85⟩ : ∃ z, z = h83.size := ⟨_, rfl⟩
  rw [← g85] at A85 st85
  have V85 : Arv Z h85 b85 k85 .int (17 : Int32) [(.int (0 : Int32)), (.int (0 : Int32)), (.int (0 : Int32)), (.int (0 : Int32)), (.int (0 : Int32)), (.int (0 : Int32)), (.int (0 : Int32)), (.int (0 : Int32)), (.int (0 : Int32)), (.int (0 : Int32)), (.int (0 : Int32)), (.int (0 : Int32)), (.int (0 : Int32)), (.int (0 : Int32)), (.int (0 : Int32)), (.int (0 : Int32)), (.int (0 : Int32))] (.int (0 : Int32)) := (Arv.new A85 (by decide)).pad (pad_rep [] (.int (0 : Int32)) 17)
  have g_b85 : n0 ≤ b85 := Nat.le_trans (Nat.le_trans Z0 EX83.1) (Nat.le_of_eq g85.symm)
  have sz_b85 : h0.size ≤ b85 := Nat.le_trans EX83.1 <| Nat.le_of_eq g85.symm
  have ne_b7_b85 : b7 ≠ b85 := Nat.ne_of_lt (Nat.lt_of_lt_of_le V84.lt (Nat.le_of_eq g85.symm))
  have V86 := V84.ext E85
  have ne_b45_b85 : b45 ≠ b85 := Nat.ne_of_lt (Nat.lt_of_lt_of_le V83.lt (Nat.le_of_eq g85.symm))
  have V87 := V83.ext E85
  have EX85 : Ext h0 h85 := own_ext_trans EX83 E85
  obtain ⟨cl88, Ar88, q88, S88, N88, H88, G88⟩ := And.left ⟨V85, trivial⟩
  have hin88 : ¬ ((0 : Int32) < 0 ∨ cl88.slots.size ≤ ((0 : Int32)).toNatClampNeg) := inb_of S88 ⟨by decide, by decide⟩
  obtain ⟨T88, h88, X88, e88, W88, st88⟩ := stI X85 hx hZ e85 Ar88 (j := (0 : Int32)) hin88 (g := (mkF m 214 #[.val (.int p0), .val (.int p1), .val (.int p2), .val (.ref b7), .val (.ref b45), .unset, .unset, .unset, .unset, .unset, .unset] [(.int (7 : Int32)), (.int (0 : Int32)), (.ref b85), (.ref b85)])) rfl rfl (hb hby at_214)
  have V88 : Arv Z h88 b85 k85 .int (17 : Int32) [(.int (7 : Int32)), (.int (0 : Int32)), (.int (0 : Int32)), (.int (0 : Int32)), (.int (0 : Int32)), (.int (0 : Int32)), (.int (0 : Int32)), (.int (0 : Int32)), (.int (0 : Int32)), (.int (0 : Int32)), (.int (0 : Int32)), (.int (0 : Int32)), (.int (0 : Int32)), (.int (0 : Int32)), (.int (0 : Int32)), (.int (0 : Int32)), (.int (0 : Int32))] (.int (0 : Int32)) := Arv.set Ar88 q88 S88 N88 H88 G88 rfl W88 0 rfl (Nat.le_of_ble_eq_true rfl)
  have V89 := V86.other W88 ne_b7_b85
  have V90 := V87.other W88 ne_b45_b85
  have N88' := Fr.snoc X88 N83' g_b85
  have EX88 : Ext h0 h88 := own_ext_wr EX85 W88 sz_b85
  obtain ⟨cl91, Ar91, q91, S91, N91, H91, G91⟩ := And.left ⟨V88, trivial⟩
  have hin91 : ¬ ((1 : Int32) < 0 ∨ cl91.slots.size ≤ ((1 : Int32)).toNatClampNeg) := inb_of S91 ⟨by decide, by decide⟩
  obtain ⟨T91, h91, X91, e91, W91, st91⟩ := stI X88 hx hZ e88 Ar91 (j := (1 : Int32)) hin91 (g := (mkF m 219 #[.val (.int p0), .val (.int p1), .val (.int p2), .val (.ref b7), .val (.ref b45), .unset, .unset, .unset, .unset, .unset, .unset] [(.int (11 : Int32)), (.int (1 : Int32)), (.ref b85), (.ref b85)])) rfl rfl (hb hby at_219)
  have V91 : Arv Z h91 b85 k85 .int (17 : Int32) [(.int (7 : Int32)), (.int (11 : Int32)), (.int (0 : Int32)), (.int (0 : Int32)), (.int (0 : Int32)), (.int (0 : Int32)), (.int (0 : Int32)), (.int (0 : Int32)), (.int (0 : Int32)), (.int (0 : Int32)), (.int (0 : Int32)), (.int (0 : Int32)), (.int (0 : Int32)), (.int (0 : Int32)), (.int (0 : Int32)), (.int (0 : Int32)), (.int (0 : Int32))] (.int (0 : Int32)) := Arv.set Ar91 q91 S91 N91 H91 G91 rfl W91 1 rfl (Nat.le_of_ble_eq_true rfl)
  have V92 := V89.other W91 ne_b7_b85
  have V93 := V90.other W91 ne_b45_b85
  have N91' := Fr.snoc X91 N88' g_b85
  have EX91 : Ext h0 h91 := own_ext_wr EX88 W91 sz_b85
  have k94 : ∀ t, Steps p.tables e below (T91.setTop (mkF m 220 #[.val (.int p0), .val (.int p1), .val (.int p2), .val (.ref b7), .val (.ref b45), .unset, .unset, .unset, .unset, .unset, .unset] [(.ref b85)])) t → Steps p.tables e below (s₁.setTop (entryFrame m #[(.int p0), (.int p1), (.int p2)] maxLocals)) t := fun t kt => k80 t (by
    show Steps p.tables e below (T78.setTop (mkF m 194 #[.val (.int p0), .val (.int p1), .val (.int p2), .val (.ref b7), .unset, .unset, .unset, .unset, .unset, .unset, .unset] [(.ref b45)])) _
    refine XS.dup X78.here hx rfl (hb hby at_194) rfl rfl ?_
    show Steps p.tables e below (T78.setTop (mkF m 195 #[.val (.int p0), .val (.int p1), .val (.int p2), .val (.ref b7), .unset, .unset, .unset, .unset, .unset, .unset, .unset] [(.ref b45), (.ref b45)])) _
    refine XS.bipush X78.here hx rfl (hb hby at_195) ?_
    show Steps p.tables e below (T78.setTop (mkF m 197 #[.val (.int p0), .val (.int p1), .val (.int p2), .val (.ref b7), .unset, .unset, .unset, .unset, .unset, .unset, .unset] [(.int (15 : Int32)), (.ref b45), (.ref b45)])) _
    refine XS.iconst X78.here hx rfl (hb hby at_197) ?_
    show Steps p.tables e below (T78.setTop (mkF m 198 #[.val (.int p0), .val (.int p1), .val (.int p2), .val (.ref b7), .unset, .unset, .unset, .unset, .unset, .unset, .unset] [(.int (1 : Int32)), (.int (15 : Int32)), (.ref b45), (.ref b45)])) _
    refine st81 _ ?_
    show Steps p.tables e below (T81.setTop (mkF m 199 #[.val (.int p0), .val (.int p1), .val (.int p2), .val (.ref b7), .unset, .unset, .unset, .unset, .unset, .unset, .unset] [(.ref b45)])) _
    refine XS.dup X81.here hx rfl (hb hby at_199) rfl rfl ?_
    show Steps p.tables e below (T81.setTop (mkF m 200 #[.val (.int p0), .val (.int p1), .val (.int p2), .val (.ref b7), .unset, .unset, .unset, .unset, .unset, .unset, .unset] [(.ref b45), (.ref b45)])) _
    refine XS.bipush X81.here hx rfl (hb hby at_200) ?_
    show Steps p.tables e below (T81.setTop (mkF m 202 #[.val (.int p0), .val (.int p1), .val (.int p2), .val (.ref b7), .unset, .unset, .unset, .unset, .unset, .unset, .unset] [(.int (16 : Int32)), (.ref b45), (.ref b45)])) _
    refine XS.iconst X81.here hx rfl (hb hby at_202) ?_
    show Steps p.tables e below (T81.setTop (mkF m 203 #[.val (.int p0), .val (.int p1), .val (.int p2), .val (.ref b7), .unset, .unset, .unset, .unset, .unset, .unset, .unset] [(.int (3 : Int32)), (.int (16 : Int32)), (.ref b45), (.ref b45)])) _
    refine st83 _ ?_
    show Steps p.tables e below (T83.setTop (mkF m 204 #[.val (.int p0), .val (.int p1), .val (.int p2), .val (.ref b7), .unset, .unset, .unset, .unset, .unset, .unset, .unset] [(.ref b45)])) _
    refine XS.astore X83.here hx rfl (hb hby at_204) rfl rfl (l' := #[.val (.int p0), .val (.int p1), .val (.int p2), .val (.ref b7), .val (.ref b45), .unset, .unset, .unset, .unset, .unset, .unset]) rfl ?_
    show Steps p.tables e below (T83.setTop (mkF m 206 #[.val (.int p0), .val (.int p1), .val (.int p2), .val (.ref b7), .val (.ref b45), .unset, .unset, .unset, .unset, .unset, .unset] [])) _
    refine XS.bipush X83.here hx rfl (hb hby at_206) ?_
    show Steps p.tables e below (T83.setTop (mkF m 208 #[.val (.int p0), .val (.int p1), .val (.int p2), .val (.ref b7), .val (.ref b45), .unset, .unset, .unset, .unset, .unset, .unset] [(.int (17 : Int32))])) _
    refine st85 _ ?_
    show Steps p.tables e below (T85.setTop (mkF m 210 #[.val (.int p0), .val (.int p1), .val (.int p2), .val (.ref b7), .val (.ref b45), .unset, .unset, .unset, .unset, .unset, .unset] [(.ref b85)])) _
    refine XS.dup X85.here hx rfl (hb hby at_210) rfl rfl ?_
    show Steps p.tables e below (T85.setTop (mkF m 211 #[.val (.int p0), .val (.int p1), .val (.int p2), .val (.ref b7), .val (.ref b45), .unset, .unset, .unset, .unset, .unset, .unset] [(.ref b85), (.ref b85)])) _
    refine XS.iconst X85.here hx rfl (hb hby at_211) ?_
    show Steps p.tables e below (T85.setTop (mkF m 212 #[.val (.int p0), .val (.int p1), .val (.int p2), .val (.ref b7), .val (.ref b45), .unset, .unset, .unset, .unset, .unset, .unset] [(.int (0 : Int32)), (.ref b85), (.ref b85)])) _
    refine XS.bipush X85.here hx rfl (hb hby at_212) ?_
    show Steps p.tables e below (T85.setTop (mkF m 214 #[.val (.int p0), .val (.int p1), .val (.int p2), .val (.ref b7), .val (.ref b45), .unset, .unset, .unset, .unset, .unset, .unset] [(.int (7 : Int32)), (.int (0 : Int32)), (.ref b85), (.ref b85)])) _
    refine st88 _ ?_
    show Steps p.tables e below (T88.setTop (mkF m 215 #[.val (.int p0), .val (.int p1), .val (.int p2), .val (.ref b7), .val (.ref b45), .unset, .unset, .unset, .unset, .unset, .unset] [(.ref b85)])) _
    refine XS.dup X88.here hx rfl (hb hby at_215) rfl rfl ?_
    show Steps p.tables e below (T88.setTop (mkF m 216 #[.val (.int p0), .val (.int p1), .val (.int p2), .val (.ref b7), .val (.ref b45), .unset, .unset, .unset, .unset, .unset, .unset] [(.ref b85), (.ref b85)])) _
    refine XS.iconst X88.here hx rfl (hb hby at_216) ?_
    show Steps p.tables e below (T88.setTop (mkF m 217 #[.val (.int p0), .val (.int p1), .val (.int p2), .val (.ref b7), .val (.ref b45), .unset, .unset, .unset, .unset, .unset, .unset] [(.int (1 : Int32)), (.ref b85), (.ref b85)])) _
    refine XS.bipush X88.here hx rfl (hb hby at_217) ?_
    show Steps p.tables e below (T88.setTop (mkF m 219 #[.val (.int p0), .val (.int p1), .val (.int p2), .val (.ref b7), .val (.ref b45), .unset, .unset, .unset, .unset, .unset, .unset] [(.int (11 : Int32)), (.int (1 : Int32)), (.ref b85), (.ref b85)])) _
    refine st91 _ ?_
    exact kt)
  obtain ⟨cl95, Ar95, q95, S95, N95, H95, G95⟩ := And.left ⟨V91, trivial⟩
  have hin95 : ¬ ((2 : Int32) < 0 ∨ cl95.slots.size ≤ ((2 : Int32)).toNatClampNeg) := inb_of S95 ⟨by decide, by decide⟩
  obtain ⟨T95, h95, X95, e95, W95, st95⟩ := stI X91 hx hZ e91 Ar95 (j := (2 : Int32)) hin95 (g := (mkF m 223 #[.val (.int p0), .val (.int p1), .val (.int p2), .val (.ref b7), .val (.ref b45), .unset, .unset, .unset, .unset, .unset, .unset] [(.int (2 : Int32)), (.int (2 : Int32)), (.ref b85), (.ref b85)])) rfl rfl (hb hby at_223)
  have V95 : Arv Z h95 b85 k85 .int (17 : Int32) [(.int (7 : Int32)), (.int (11 : Int32)), (.int (2 : Int32)), (.int (0 : Int32)), (.int (0 : Int32)), (.int (0 : Int32)), (.int (0 : Int32)), (.int (0 : Int32)), (.int (0 : Int32)), (.int (0 : Int32)), (.int (0 : Int32)), (.int (0 : Int32)), (.int (0 : Int32)), (.int (0 : Int32)), (.int (0 : Int32)), (.int (0 : Int32)), (.int (0 : Int32))] (.int (0 : Int32)) := Arv.set Ar95 q95 S95 N95 H95 G95 rfl W95 2 rfl (Nat.le_of_ble_eq_true rfl)
  have V96 := V92.other W95 ne_b7_b85
  have V97 := V93.other W95 ne_b45_b85
  have N95' := Fr.snoc X95 N91' g_b85
  have EX95 : Ext h0 h95 := own_ext_wr EX91 W95 sz_b85
  obtain ⟨cl98, Ar98, q98, S98, N98, H98, G98⟩ := And.left ⟨V95, trivial⟩
  have hin98 : ¬ ((3 : Int32) < 0 ∨ cl98.slots.size ≤ ((3 : Int32)).toNatClampNeg) := inb_of S98 ⟨by decide, by decide⟩
  obtain ⟨T98, h98, X98, e98, W98, st98⟩ := stI X95 hx hZ e95 Ar98 (j := (3 : Int32)) hin98 (g := (mkF m 227 #[.val (.int p0), .val (.int p1), .val (.int p2), .val (.ref b7), .val (.ref b45), .unset, .unset, .unset, .unset, .unset, .unset] [(.int (4 : Int32)), (.int (3 : Int32)), (.ref b85), (.ref b85)])) rfl rfl (hb hby at_227)
  have V98 : Arv Z h98 b85 k85 .int (17 : Int32) [(.int (7 : Int32)), (.int (11 : Int32)), (.int (2 : Int32)), (.int (4 : Int32)), (.int (0 : Int32)), (.int (0 : Int32)), (.int (0 : Int32)), (.int (0 : Int32)), (.int (0 : Int32)), (.int (0 : Int32)), (.int (0 : Int32)), (.int (0 : Int32)), (.int (0 : Int32)), (.int (0 : Int32)), (.int (0 : Int32)), (.int (0 : Int32)), (.int (0 : Int32))] (.int (0 : Int32)) := Arv.set Ar98 q98 S98 N98 H98 G98 rfl W98 3 rfl (Nat.le_of_ble_eq_true rfl)
  have V99 := V96.other W98 ne_b7_b85
  have V100 := V97.other W98 ne_b45_b85
  have N98' := Fr.snoc X98 N95' g_b85
  have EX98 : Ext h0 h98 := own_ext_wr EX95 W98 sz_b85
  obtain ⟨cl101, Ar101, q101, S101, N101, H101, G101⟩ := And.left ⟨V98, trivial⟩
  have hin101 : ¬ ((4 : Int32) < 0 ∨ cl101.slots.size ≤ ((4 : Int32)).toNatClampNeg) := inb_of S101 ⟨by decide, by decide⟩
  obtain ⟨T101, h101, X101, e101, W101, st101⟩ := stI X98 hx hZ e98 Ar101 (j := (4 : Int32)) hin101 (g := (mkF m 232 #[.val (.int p0), .val (.int p1), .val (.int p2), .val (.ref b7), .val (.ref b45), .unset, .unset, .unset, .unset, .unset, .unset] [(.int (7 : Int32)), (.int (4 : Int32)), (.ref b85), (.ref b85)])) rfl rfl (hb hby at_232)
  have V101 : Arv Z h101 b85 k85 .int (17 : Int32) [(.int (7 : Int32)), (.int (11 : Int32)), (.int (2 : Int32)), (.int (4 : Int32)), (.int (7 : Int32)), (.int (0 : Int32)), (.int (0 : Int32)), (.int (0 : Int32)), (.int (0 : Int32)), (.int (0 : Int32)), (.int (0 : Int32)), (.int (0 : Int32)), (.int (0 : Int32)), (.int (0 : Int32)), (.int (0 : Int32)), (.int (0 : Int32)), (.int (0 : Int32))] (.int (0 : Int32)) := Arv.set Ar101 q101 S101 N101 H101 G101 rfl W101 4 rfl (Nat.le_of_ble_eq_true rfl)
  have V102 := V99.other W101 ne_b7_b85
  have V103 := V100.other W101 ne_b45_b85
  have N101' := Fr.snoc X101 N98' g_b85
  have EX101 : Ext h0 h101 := own_ext_wr EX98 W101 sz_b85
  obtain ⟨cl104, Ar104, q104, S104, N104, H104, G104⟩ := And.left ⟨V101, trivial⟩
  have hin104 : ¬ ((5 : Int32) < 0 ∨ cl104.slots.size ≤ ((5 : Int32)).toNatClampNeg) := inb_of S104 ⟨by decide, by decide⟩
  obtain ⟨T104, h104, X104, e104, W104, st104⟩ := stI X101 hx hZ e101 Ar104 (j := (5 : Int32)) hin104 (g := (mkF m 237 #[.val (.int p0), .val (.int p1), .val (.int p2), .val (.ref b7), .val (.ref b45), .unset, .unset, .unset, .unset, .unset, .unset] [(.int (7 : Int32)), (.int (5 : Int32)), (.ref b85), (.ref b85)])) rfl rfl (hb hby at_237)
  have V104 : Arv Z h104 b85 k85 .int (17 : Int32) [(.int (7 : Int32)), (.int (11 : Int32)), (.int (2 : Int32)), (.int (4 : Int32)), (.int (7 : Int32)), (.int (7 : Int32)), (.int (0 : Int32)), (.int (0 : Int32)), (.int (0 : Int32)), (.int (0 : Int32)), (.int (0 : Int32)), (.int (0 : Int32)), (.int (0 : Int32)), (.int (0 : Int32)), (.int (0 : Int32)), (.int (0 : Int32)), (.int (0 : Int32))] (.int (0 : Int32)) := Arv.set Ar104 q104 S104 N104 H104 G104 rfl W104 5 rfl (Nat.le_of_ble_eq_true rfl)
  have V105 := V102.other W104 ne_b7_b85
  have V106 := V103.other W104 ne_b45_b85
  have N104' := Fr.snoc X104 N101' g_b85
  have EX104 : Ext h0 h104 := own_ext_wr EX101 W104 sz_b85
  have k107 : ∀ t, Steps p.tables e below (T104.setTop (mkF m 242 #[.val (.int p0), .val (.int p1), .val (.int p2), .val (.ref b7), .val (.ref b45), .unset, .unset, .unset, .unset, .unset, .unset] [(.int (2 : Int32)), (.int (6 : Int32)), (.ref b85), (.ref b85)])) t → Steps p.tables e below (s₁.setTop (entryFrame m #[(.int p0), (.int p1), (.int p2)] maxLocals)) t := fun t kt => k94 t (by
    show Steps p.tables e below (T91.setTop (mkF m 220 #[.val (.int p0), .val (.int p1), .val (.int p2), .val (.ref b7), .val (.ref b45), .unset, .unset, .unset, .unset, .unset, .unset] [(.ref b85)])) _
    refine XS.dup X91.here hx rfl (hb hby at_220) rfl rfl ?_
    show Steps p.tables e below (T91.setTop (mkF m 221 #[.val (.int p0), .val (.int p1), .val (.int p2), .val (.ref b7), .val (.ref b45), .unset, .unset, .unset, .unset, .unset, .unset] [(.ref b85), (.ref b85)])) _
    refine XS.iconst X91.here hx rfl (hb hby at_221) ?_
    show Steps p.tables e below (T91.setTop (mkF m 222 #[.val (.int p0), .val (.int p1), .val (.int p2), .val (.ref b7), .val (.ref b45), .unset, .unset, .unset, .unset, .unset, .unset] [(.int (2 : Int32)), (.ref b85), (.ref b85)])) _
    refine XS.iconst X91.here hx rfl (hb hby at_222) ?_
    show Steps p.tables e below (T91.setTop (mkF m 223 #[.val (.int p0), .val (.int p1), .val (.int p2), .val (.ref b7), .val (.ref b45), .unset, .unset, .unset, .unset, .unset, .unset] [(.int (2 : Int32)), (.int (2 : Int32)), (.ref b85), (.ref b85)])) _
    refine st95 _ ?_
    show Steps p.tables e below (T95.setTop (mkF m 224 #[.val (.int p0), .val (.int p1), .val (.int p2), .val (.ref b7), .val (.ref b45), .unset, .unset, .unset, .unset, .unset, .unset] [(.ref b85)])) _
    refine XS.dup X95.here hx rfl (hb hby at_224) rfl rfl ?_
    show Steps p.tables e below (T95.setTop (mkF m 225 #[.val (.int p0), .val (.int p1), .val (.int p2), .val (.ref b7), .val (.ref b45), .unset, .unset, .unset, .unset, .unset, .unset] [(.ref b85), (.ref b85)])) _
    refine XS.iconst X95.here hx rfl (hb hby at_225) ?_
    show Steps p.tables e below (T95.setTop (mkF m 226 #[.val (.int p0), .val (.int p1), .val (.int p2), .val (.ref b7), .val (.ref b45), .unset, .unset, .unset, .unset, .unset, .unset] [(.int (3 : Int32)), (.ref b85), (.ref b85)])) _
    refine XS.iconst X95.here hx rfl (hb hby at_226) ?_
    show Steps p.tables e below (T95.setTop (mkF m 227 #[.val (.int p0), .val (.int p1), .val (.int p2), .val (.ref b7), .val (.ref b45), .unset, .unset, .unset, .unset, .unset, .unset] [(.int (4 : Int32)), (.int (3 : Int32)), (.ref b85), (.ref b85)])) _
    refine st98 _ ?_
    show Steps p.tables e below (T98.setTop (mkF m 228 #[.val (.int p0), .val (.int p1), .val (.int p2), .val (.ref b7), .val (.ref b45), .unset, .unset, .unset, .unset, .unset, .unset] [(.ref b85)])) _
    refine XS.dup X98.here hx rfl (hb hby at_228) rfl rfl ?_
    show Steps p.tables e below (T98.setTop (mkF m 229 #[.val (.int p0), .val (.int p1), .val (.int p2), .val (.ref b7), .val (.ref b45), .unset, .unset, .unset, .unset, .unset, .unset] [(.ref b85), (.ref b85)])) _
    refine XS.iconst X98.here hx rfl (hb hby at_229) ?_
    show Steps p.tables e below (T98.setTop (mkF m 230 #[.val (.int p0), .val (.int p1), .val (.int p2), .val (.ref b7), .val (.ref b45), .unset, .unset, .unset, .unset, .unset, .unset] [(.int (4 : Int32)), (.ref b85), (.ref b85)])) _
    refine XS.bipush X98.here hx rfl (hb hby at_230) ?_
    show Steps p.tables e below (T98.setTop (mkF m 232 #[.val (.int p0), .val (.int p1), .val (.int p2), .val (.ref b7), .val (.ref b45), .unset, .unset, .unset, .unset, .unset, .unset] [(.int (7 : Int32)), (.int (4 : Int32)), (.ref b85), (.ref b85)])) _
    refine st101 _ ?_
    show Steps p.tables e below (T101.setTop (mkF m 233 #[.val (.int p0), .val (.int p1), .val (.int p2), .val (.ref b7), .val (.ref b45), .unset, .unset, .unset, .unset, .unset, .unset] [(.ref b85)])) _
    refine XS.dup X101.here hx rfl (hb hby at_233) rfl rfl ?_
    show Steps p.tables e below (T101.setTop (mkF m 234 #[.val (.int p0), .val (.int p1), .val (.int p2), .val (.ref b7), .val (.ref b45), .unset, .unset, .unset, .unset, .unset, .unset] [(.ref b85), (.ref b85)])) _
    refine XS.iconst X101.here hx rfl (hb hby at_234) ?_
    show Steps p.tables e below (T101.setTop (mkF m 235 #[.val (.int p0), .val (.int p1), .val (.int p2), .val (.ref b7), .val (.ref b45), .unset, .unset, .unset, .unset, .unset, .unset] [(.int (5 : Int32)), (.ref b85), (.ref b85)])) _
    refine XS.bipush X101.here hx rfl (hb hby at_235) ?_
    show Steps p.tables e below (T101.setTop (mkF m 237 #[.val (.int p0), .val (.int p1), .val (.int p2), .val (.ref b7), .val (.ref b45), .unset, .unset, .unset, .unset, .unset, .unset] [(.int (7 : Int32)), (.int (5 : Int32)), (.ref b85), (.ref b85)])) _
    refine st104 _ ?_
    show Steps p.tables e below (T104.setTop (mkF m 238 #[.val (.int p0), .val (.int p1), .val (.int p2), .val (.ref b7), .val (.ref b45), .unset, .unset, .unset, .unset, .unset, .unset] [(.ref b85)])) _
    refine XS.dup X104.here hx rfl (hb hby at_238) rfl rfl ?_
    show Steps p.tables e below (T104.setTop (mkF m 239 #[.val (.int p0), .val (.int p1), .val (.int p2), .val (.ref b7), .val (.ref b45), .unset, .unset, .unset, .unset, .unset, .unset] [(.ref b85), (.ref b85)])) _
    refine XS.bipush X104.here hx rfl (hb hby at_239) ?_
    show Steps p.tables e below (T104.setTop (mkF m 241 #[.val (.int p0), .val (.int p1), .val (.int p2), .val (.ref b7), .val (.ref b45), .unset, .unset, .unset, .unset, .unset, .unset] [(.int (6 : Int32)), (.ref b85), (.ref b85)])) _
    refine XS.iconst X104.here hx rfl (hb hby at_241) ?_
    exact kt)
  obtain ⟨cl108, Ar108, q108, S108, N108, H108, G108⟩ := And.left ⟨V104, trivial⟩
  have hin108 : ¬ ((6 : Int32) < 0 ∨ cl108.slots.size ≤ ((6 : Int32)).toNatClampNeg) := inb_of S108 ⟨by decide, by decide⟩
  obtain ⟨T108, h108, X108, e108, W108, st108⟩ := stI X104 hx hZ e104 Ar108 (j := (6 : Int32)) hin108 (g := (mkF m 242 #[.val (.int p0), .val (.int p1), .val (.int p2), .val (.ref b7), .val (.ref b45), .unset, .unset, .unset, .unset, .unset, .unset] [(.int (2 : Int32)), (.int (6 : Int32)), (.ref b85), (.ref b85)])) rfl rfl (hb hby at_242)
  have V108 : Arv Z h108 b85 k85 .int (17 : Int32) [(.int (7 : Int32)), (.int (11 : Int32)), (.int (2 : Int32)), (.int (4 : Int32)), (.int (7 : Int32)), (.int (7 : Int32)), (.int (2 : Int32)), (.int (0 : Int32)), (.int (0 : Int32)), (.int (0 : Int32)), (.int (0 : Int32)), (.int (0 : Int32)), (.int (0 : Int32)), (.int (0 : Int32)), (.int (0 : Int32)), (.int (0 : Int32)), (.int (0 : Int32))] (.int (0 : Int32)) := Arv.set Ar108 q108 S108 N108 H108 G108 rfl W108 6 rfl (Nat.le_of_ble_eq_true rfl)
  have V109 := V105.other W108 ne_b7_b85
  have V110 := V106.other W108 ne_b45_b85
  have N108' := Fr.snoc X108 N104' g_b85
  have EX108 : Ext h0 h108 := own_ext_wr EX104 W108 sz_b85
  obtain ⟨cl111, Ar111, q111, S111, N111, H111, G111⟩ := And.left ⟨V108, trivial⟩
  have hin111 : ¬ ((7 : Int32) < 0 ∨ cl111.slots.size ≤ ((7 : Int32)).toNatClampNeg) := inb_of S111 ⟨by decide, by decide⟩
  obtain ⟨T111, h111, X111, e111, W111, st111⟩ := stI X108 hx hZ e108 Ar111 (j := (7 : Int32)) hin111 (g := (mkF m 247 #[.val (.int p0), .val (.int p1), .val (.int p2), .val (.ref b7), .val (.ref b45), .unset, .unset, .unset, .unset, .unset, .unset] [(.int (5 : Int32)), (.int (7 : Int32)), (.ref b85), (.ref b85)])) rfl rfl (hb hby at_247)
  have V111 : Arv Z h111 b85 k85 .int (17 : Int32) [(.int (7 : Int32)), (.int (11 : Int32)), (.int (2 : Int32)), (.int (4 : Int32)), (.int (7 : Int32)), (.int (7 : Int32)), (.int (2 : Int32)), (.int (5 : Int32)), (.int (0 : Int32)), (.int (0 : Int32)), (.int (0 : Int32)), (.int (0 : Int32)), (.int (0 : Int32)), (.int (0 : Int32)), (.int (0 : Int32)), (.int (0 : Int32)), (.int (0 : Int32))] (.int (0 : Int32)) := Arv.set Ar111 q111 S111 N111 H111 G111 rfl W111 7 rfl (Nat.le_of_ble_eq_true rfl)
  have V112 := V109.other W111 ne_b7_b85
  have V113 := V110.other W111 ne_b45_b85
  have N111' := Fr.snoc X111 N108' g_b85
  have EX111 : Ext h0 h111 := own_ext_wr EX108 W111 sz_b85
  obtain ⟨cl114, Ar114, q114, S114, N114, H114, G114⟩ := And.left ⟨V111, trivial⟩
  have hin114 : ¬ ((8 : Int32) < 0 ∨ cl114.slots.size ≤ ((8 : Int32)).toNatClampNeg) := inb_of S114 ⟨by decide, by decide⟩
  obtain ⟨T114, h114, X114, e114, W114, st114⟩ := stI X111 hx hZ e111 Ar114 (j := (8 : Int32)) hin114 (g := (mkF m 252 #[.val (.int p0), .val (.int p1), .val (.int p2), .val (.ref b7), .val (.ref b45), .unset, .unset, .unset, .unset, .unset, .unset] [(.int (3 : Int32)), (.int (8 : Int32)), (.ref b85), (.ref b85)])) rfl rfl (hb hby at_252)
  have V114 : Arv Z h114 b85 k85 .int (17 : Int32) [(.int (7 : Int32)), (.int (11 : Int32)), (.int (2 : Int32)), (.int (4 : Int32)), (.int (7 : Int32)), (.int (7 : Int32)), (.int (2 : Int32)), (.int (5 : Int32)), (.int (3 : Int32)), (.int (0 : Int32)), (.int (0 : Int32)), (.int (0 : Int32)), (.int (0 : Int32)), (.int (0 : Int32)), (.int (0 : Int32)), (.int (0 : Int32)), (.int (0 : Int32))] (.int (0 : Int32)) := Arv.set Ar114 q114 S114 N114 H114 G114 rfl W114 8 rfl (Nat.le_of_ble_eq_true rfl)
  have V115 := V112.other W114 ne_b7_b85
  have V116 := V113.other W114 ne_b45_b85
  have N114' := Fr.snoc X114 N111' g_b85
  have EX114 : Ext h0 h114 := own_ext_wr EX111 W114 sz_b85
  obtain ⟨cl117, Ar117, q117, S117, N117, H117, G117⟩ := And.left ⟨V114, trivial⟩
  have hin117 : ¬ ((9 : Int32) < 0 ∨ cl117.slots.size ≤ ((9 : Int32)).toNatClampNeg) := inb_of S117 ⟨by decide, by decide⟩
  obtain ⟨T117, h117, X117, e117, W117, st117⟩ := stI X114 hx hZ e114 Ar117 (j := (9 : Int32)) hin117 (g := (mkF m 257 #[.val (.int p0), .val (.int p1), .val (.int p2), .val (.ref b7), .val (.ref b45), .unset, .unset, .unset, .unset, .unset, .unset] [(.int (1 : Int32)), (.int (9 : Int32)), (.ref b85), (.ref b85)])) rfl rfl (hb hby at_257)
  have V117 : Arv Z h117 b85 k85 .int (17 : Int32) [(.int (7 : Int32)), (.int (11 : Int32)), (.int (2 : Int32)), (.int (4 : Int32)), (.int (7 : Int32)), (.int (7 : Int32)), (.int (2 : Int32)), (.int (5 : Int32)), (.int (3 : Int32)), (.int (1 : Int32)), (.int (0 : Int32)), (.int (0 : Int32)), (.int (0 : Int32)), (.int (0 : Int32)), (.int (0 : Int32)), (.int (0 : Int32)), (.int (0 : Int32))] (.int (0 : Int32)) := Arv.set Ar117 q117 S117 N117 H117 G117 rfl W117 9 rfl (Nat.le_of_ble_eq_true rfl)
  have V118 := V115.other W117 ne_b7_b85
  have V119 := V116.other W117 ne_b45_b85
  have N117' := Fr.snoc X117 N114' g_b85
  have EX117 : Ext h0 h117 := own_ext_wr EX114 W117 sz_b85
  obtain ⟨cl120, Ar120, q120, S120, N120, H120, G120⟩ := And.left ⟨V117, trivial⟩
  have hin120 : ¬ ((10 : Int32) < 0 ∨ cl120.slots.size ≤ ((10 : Int32)).toNatClampNeg) := inb_of S120 ⟨by decide, by decide⟩
  obtain ⟨T120, h120, X120, e120, W120, st120⟩ := stI X117 hx hZ e117 Ar120 (j := (10 : Int32)) hin120 (g := (mkF m 262 #[.val (.int p0), .val (.int p1), .val (.int p2), .val (.ref b7), .val (.ref b45), .unset, .unset, .unset, .unset, .unset, .unset] [(.int (3 : Int32)), (.int (10 : Int32)), (.ref b85), (.ref b85)])) rfl rfl (hb hby at_262)
  have V120 : Arv Z h120 b85 k85 .int (17 : Int32) [(.int (7 : Int32)), (.int (11 : Int32)), (.int (2 : Int32)), (.int (4 : Int32)), (.int (7 : Int32)), (.int (7 : Int32)), (.int (2 : Int32)), (.int (5 : Int32)), (.int (3 : Int32)), (.int (1 : Int32)), (.int (3 : Int32)), (.int (0 : Int32)), (.int (0 : Int32)), (.int (0 : Int32)), (.int (0 : Int32)), (.int (0 : Int32)), (.int (0 : Int32))] (.int (0 : Int32)) := Arv.set Ar120 q120 S120 N120 H120 G120 rfl W120 10 rfl (Nat.le_of_ble_eq_true rfl)
  have V121 := V118.other W120 ne_b7_b85
  have V122 := V119.other W120 ne_b45_b85
  have N120' := Fr.snoc X120 N117' g_b85
  have EX120 : Ext h0 h120 := own_ext_wr EX117 W120 sz_b85
  have k123 : ∀ t, Steps p.tables e below (T120.setTop (mkF m 266 #[.val (.int p0), .val (.int p1), .val (.int p2), .val (.ref b7), .val (.ref b45), .unset, .unset, .unset, .unset, .unset, .unset] [(.int (11 : Int32)), (.ref b85), (.ref b85)])) t → Steps p.tables e below (s₁.setTop (entryFrame m #[(.int p0), (.int p1), (.int p2)] maxLocals)) t := fun t kt => k107 t (by
    show Steps p.tables e below (T104.setTop (mkF m 242 #[.val (.int p0), .val (.int p1), .val (.int p2), .val (.ref b7), .val (.ref b45), .unset, .unset, .unset, .unset, .unset, .unset] [(.int (2 : Int32)), (.int (6 : Int32)), (.ref b85), (.ref b85)])) _
    refine st108 _ ?_
    show Steps p.tables e below (T108.setTop (mkF m 243 #[.val (.int p0), .val (.int p1), .val (.int p2), .val (.ref b7), .val (.ref b45), .unset, .unset, .unset, .unset, .unset, .unset] [(.ref b85)])) _
    refine XS.dup X108.here hx rfl (hb hby at_243) rfl rfl ?_
    show Steps p.tables e below (T108.setTop (mkF m 244 #[.val (.int p0), .val (.int p1), .val (.int p2), .val (.ref b7), .val (.ref b45), .unset, .unset, .unset, .unset, .unset, .unset] [(.ref b85), (.ref b85)])) _
    refine XS.bipush X108.here hx rfl (hb hby at_244) ?_
    show Steps p.tables e below (T108.setTop (mkF m 246 #[.val (.int p0), .val (.int p1), .val (.int p2), .val (.ref b7), .val (.ref b45), .unset, .unset, .unset, .unset, .unset, .unset] [(.int (7 : Int32)), (.ref b85), (.ref b85)])) _
    refine XS.iconst X108.here hx rfl (hb hby at_246) ?_
    show Steps p.tables e below (T108.setTop (mkF m 247 #[.val (.int p0), .val (.int p1), .val (.int p2), .val (.ref b7), .val (.ref b45), .unset, .unset, .unset, .unset, .unset, .unset] [(.int (5 : Int32)), (.int (7 : Int32)), (.ref b85), (.ref b85)])) _
    refine st111 _ ?_
    show Steps p.tables e below (T111.setTop (mkF m 248 #[.val (.int p0), .val (.int p1), .val (.int p2), .val (.ref b7), .val (.ref b45), .unset, .unset, .unset, .unset, .unset, .unset] [(.ref b85)])) _
    refine XS.dup X111.here hx rfl (hb hby at_248) rfl rfl ?_
    show Steps p.tables e below (T111.setTop (mkF m 249 #[.val (.int p0), .val (.int p1), .val (.int p2), .val (.ref b7), .val (.ref b45), .unset, .unset, .unset, .unset, .unset, .unset] [(.ref b85), (.ref b85)])) _
    refine XS.bipush X111.here hx rfl (hb hby at_249) ?_
    show Steps p.tables e below (T111.setTop (mkF m 251 #[.val (.int p0), .val (.int p1), .val (.int p2), .val (.ref b7), .val (.ref b45), .unset, .unset, .unset, .unset, .unset, .unset] [(.int (8 : Int32)), (.ref b85), (.ref b85)])) _
    refine XS.iconst X111.here hx rfl (hb hby at_251) ?_
    show Steps p.tables e below (T111.setTop (mkF m 252 #[.val (.int p0), .val (.int p1), .val (.int p2), .val (.ref b7), .val (.ref b45), .unset, .unset, .unset, .unset, .unset, .unset] [(.int (3 : Int32)), (.int (8 : Int32)), (.ref b85), (.ref b85)])) _
    refine st114 _ ?_
    show Steps p.tables e below (T114.setTop (mkF m 253 #[.val (.int p0), .val (.int p1), .val (.int p2), .val (.ref b7), .val (.ref b45), .unset, .unset, .unset, .unset, .unset, .unset] [(.ref b85)])) _
    refine XS.dup X114.here hx rfl (hb hby at_253) rfl rfl ?_
    show Steps p.tables e below (T114.setTop (mkF m 254 #[.val (.int p0), .val (.int p1), .val (.int p2), .val (.ref b7), .val (.ref b45), .unset, .unset, .unset, .unset, .unset, .unset] [(.ref b85), (.ref b85)])) _
    refine XS.bipush X114.here hx rfl (hb hby at_254) ?_
    show Steps p.tables e below (T114.setTop (mkF m 256 #[.val (.int p0), .val (.int p1), .val (.int p2), .val (.ref b7), .val (.ref b45), .unset, .unset, .unset, .unset, .unset, .unset] [(.int (9 : Int32)), (.ref b85), (.ref b85)])) _
    refine XS.iconst X114.here hx rfl (hb hby at_256) ?_
    show Steps p.tables e below (T114.setTop (mkF m 257 #[.val (.int p0), .val (.int p1), .val (.int p2), .val (.ref b7), .val (.ref b45), .unset, .unset, .unset, .unset, .unset, .unset] [(.int (1 : Int32)), (.int (9 : Int32)), (.ref b85), (.ref b85)])) _
    refine st117 _ ?_
    show Steps p.tables e below (T117.setTop (mkF m 258 #[.val (.int p0), .val (.int p1), .val (.int p2), .val (.ref b7), .val (.ref b45), .unset, .unset, .unset, .unset, .unset, .unset] [(.ref b85)])) _
    refine XS.dup X117.here hx rfl (hb hby at_258) rfl rfl ?_
    show Steps p.tables e below (T117.setTop (mkF m 259 #[.val (.int p0), .val (.int p1), .val (.int p2), .val (.ref b7), .val (.ref b45), .unset, .unset, .unset, .unset, .unset, .unset] [(.ref b85), (.ref b85)])) _
    refine XS.bipush X117.here hx rfl (hb hby at_259) ?_
    show Steps p.tables e below (T117.setTop (mkF m 261 #[.val (.int p0), .val (.int p1), .val (.int p2), .val (.ref b7), .val (.ref b45), .unset, .unset, .unset, .unset, .unset, .unset] [(.int (10 : Int32)), (.ref b85), (.ref b85)])) _
    refine XS.iconst X117.here hx rfl (hb hby at_261) ?_
    show Steps p.tables e below (T117.setTop (mkF m 262 #[.val (.int p0), .val (.int p1), .val (.int p2), .val (.ref b7), .val (.ref b45), .unset, .unset, .unset, .unset, .unset, .unset] [(.int (3 : Int32)), (.int (10 : Int32)), (.ref b85), (.ref b85)])) _
    refine st120 _ ?_
    show Steps p.tables e below (T120.setTop (mkF m 263 #[.val (.int p0), .val (.int p1), .val (.int p2), .val (.ref b7), .val (.ref b45), .unset, .unset, .unset, .unset, .unset, .unset] [(.ref b85)])) _
    refine XS.dup X120.here hx rfl (hb hby at_263) rfl rfl ?_
    show Steps p.tables e below (T120.setTop (mkF m 264 #[.val (.int p0), .val (.int p1), .val (.int p2), .val (.ref b7), .val (.ref b45), .unset, .unset, .unset, .unset, .unset, .unset] [(.ref b85), (.ref b85)])) _
    refine XS.bipush X120.here hx rfl (hb hby at_264) ?_
    exact kt)
  obtain ⟨cl124, Ar124, q124, S124, N124, H124, G124⟩ := And.left ⟨V120, trivial⟩
  have hin124 : ¬ ((11 : Int32) < 0 ∨ cl124.slots.size ≤ ((11 : Int32)).toNatClampNeg) := inb_of S124 ⟨by decide, by decide⟩
  obtain ⟨T124, h124, X124, e124, W124, st124⟩ := stI X120 hx hZ e120 Ar124 (j := (11 : Int32)) hin124 (g := (mkF m 267 #[.val (.int p0), .val (.int p1), .val (.int p2), .val (.ref b7), .val (.ref b45), .unset, .unset, .unset, .unset, .unset, .unset] [(.int (3 : Int32)), (.int (11 : Int32)), (.ref b85), (.ref b85)])) rfl rfl (hb hby at_267)
  have V124 : Arv Z h124 b85 k85 .int (17 : Int32) [(.int (7 : Int32)), (.int (11 : Int32)), (.int (2 : Int32)), (.int (4 : Int32)), (.int (7 : Int32)), (.int (7 : Int32)), (.int (2 : Int32)), (.int (5 : Int32)), (.int (3 : Int32)), (.int (1 : Int32)), (.int (3 : Int32)), (.int (3 : Int32)), (.int (0 : Int32)), (.int (0 : Int32)), (.int (0 : Int32)), (.int (0 : Int32)), (.int (0 : Int32))] (.int (0 : Int32)) := Arv.set Ar124 q124 S124 N124 H124 G124 rfl W124 11 rfl (Nat.le_of_ble_eq_true rfl)
  have V125 := V121.other W124 ne_b7_b85
  have V126 := V122.other W124 ne_b45_b85
  have N124' := Fr.snoc X124 N120' g_b85
  have EX124 : Ext h0 h124 := own_ext_wr EX120 W124 sz_b85
  obtain ⟨cl127, Ar127, q127, S127, N127, H127, G127⟩ := And.left ⟨V124, trivial⟩
  have hin127 : ¬ ((12 : Int32) < 0 ∨ cl127.slots.size ≤ ((12 : Int32)).toNatClampNeg) := inb_of S127 ⟨by decide, by decide⟩
  obtain ⟨T127, h127, X127, e127, W127, st127⟩ := stI X124 hx hZ e124 Ar127 (j := (12 : Int32)) hin127 (g := (mkF m 272 #[.val (.int p0), .val (.int p1), .val (.int p2), .val (.ref b7), .val (.ref b45), .unset, .unset, .unset, .unset, .unset, .unset] [(.int (4 : Int32)), (.int (12 : Int32)), (.ref b85), (.ref b85)])) rfl rfl (hb hby at_272)
  have V127 : Arv Z h127 b85 k85 .int (17 : Int32) [(.int (7 : Int32)), (.int (11 : Int32)), (.int (2 : Int32)), (.int (4 : Int32)), (.int (7 : Int32)), (.int (7 : Int32)), (.int (2 : Int32)), (.int (5 : Int32)), (.int (3 : Int32)), (.int (1 : Int32)), (.int (3 : Int32)), (.int (3 : Int32)), (.int (4 : Int32)), (.int (0 : Int32)), (.int (0 : Int32)), (.int (0 : Int32)), (.int (0 : Int32))] (.int (0 : Int32)) := Arv.set Ar127 q127 S127 N127 H127 G127 rfl W127 12 rfl (Nat.le_of_ble_eq_true rfl)
  have V128 := V125.other W127 ne_b7_b85
  have V129 := V126.other W127 ne_b45_b85
  have N127' := Fr.snoc X127 N124' g_b85
  have EX127 : Ext h0 h127 := own_ext_wr EX124 W127 sz_b85
  obtain ⟨cl130, Ar130, q130, S130, N130, H130, G130⟩ := And.left ⟨V127, trivial⟩
  have hin130 : ¬ ((13 : Int32) < 0 ∨ cl130.slots.size ≤ ((13 : Int32)).toNatClampNeg) := inb_of S130 ⟨by decide, by decide⟩
  obtain ⟨T130, h130, X130, e130, W130, st130⟩ := stI X127 hx hZ e127 Ar130 (j := (13 : Int32)) hin130 (g := (mkF m 277 #[.val (.int p0), .val (.int p1), .val (.int p2), .val (.ref b7), .val (.ref b45), .unset, .unset, .unset, .unset, .unset, .unset] [(.int (0 : Int32)), (.int (13 : Int32)), (.ref b85), (.ref b85)])) rfl rfl (hb hby at_277)
  have V130 : Arv Z h130 b85 k85 .int (17 : Int32) [(.int (7 : Int32)), (.int (11 : Int32)), (.int (2 : Int32)), (.int (4 : Int32)), (.int (7 : Int32)), (.int (7 : Int32)), (.int (2 : Int32)), (.int (5 : Int32)), (.int (3 : Int32)), (.int (1 : Int32)), (.int (3 : Int32)), (.int (3 : Int32)), (.int (4 : Int32)), (.int (0 : Int32)), (.int (0 : Int32)), (.int (0 : Int32)), (.int (0 : Int32))] (.int (0 : Int32)) := Arv.set Ar130 q130 S130 N130 H130 G130 rfl W130 13 rfl (Nat.le_of_ble_eq_true rfl)
  have V131 := V128.other W130 ne_b7_b85
  have V132 := V129.other W130 ne_b45_b85
  have N130' := Fr.snoc X130 N127' g_b85
  have EX130 : Ext h0 h130 := own_ext_wr EX127 W130 sz_b85
  obtain ⟨cl133, Ar133, q133, S133, N133, H133, G133⟩ := And.left ⟨V130, trivial⟩
  have hin133 : ¬ ((14 : Int32) < 0 ∨ cl133.slots.size ≤ ((14 : Int32)).toNatClampNeg) := inb_of S133 ⟨by decide, by decide⟩
  obtain ⟨T133, h133, X133, e133, W133, st133⟩ := stI X130 hx hZ e130 Ar133 (j := (14 : Int32)) hin133 (g := (mkF m 282 #[.val (.int p0), .val (.int p1), .val (.int p2), .val (.ref b7), .val (.ref b45), .unset, .unset, .unset, .unset, .unset, .unset] [(.int (0 : Int32)), (.int (14 : Int32)), (.ref b85), (.ref b85)])) rfl rfl (hb hby at_282)
  have V133 : Arv Z h133 b85 k85 .int (17 : Int32) [(.int (7 : Int32)), (.int (11 : Int32)), (.int (2 : Int32)), (.int (4 : Int32)), (.int (7 : Int32)), (.int (7 : Int32)), (.int (2 : Int32)), (.int (5 : Int32)), (.int (3 : Int32)), (.int (1 : Int32)), (.int (3 : Int32)), (.int (3 : Int32)), (.int (4 : Int32)), (.int (0 : Int32)), (.int (0 : Int32)), (.int (0 : Int32)), (.int (0 : Int32))] (.int (0 : Int32)) := Arv.set Ar133 q133 S133 N133 H133 G133 rfl W133 14 rfl (Nat.le_of_ble_eq_true rfl)
  have V134 := V131.other W133 ne_b7_b85
  have V135 := V132.other W133 ne_b45_b85
  have N133' := Fr.snoc X133 N130' g_b85
  have EX133 : Ext h0 h133 := own_ext_wr EX130 W133 sz_b85
  obtain ⟨cl136, Ar136, q136, S136, N136, H136, G136⟩ := And.left ⟨V133, trivial⟩
  have hin136 : ¬ ((15 : Int32) < 0 ∨ cl136.slots.size ≤ ((15 : Int32)).toNatClampNeg) := inb_of S136 ⟨by decide, by decide⟩
  obtain ⟨T136, h136, X136, e136, W136, st136⟩ := stI X133 hx hZ e133 Ar136 (j := (15 : Int32)) hin136 (g := (mkF m 287 #[.val (.int p0), .val (.int p1), .val (.int p2), .val (.ref b7), .val (.ref b45), .unset, .unset, .unset, .unset, .unset, .unset] [(.int (1 : Int32)), (.int (15 : Int32)), (.ref b85), (.ref b85)])) rfl rfl (hb hby at_287)
  have V136 : Arv Z h136 b85 k85 .int (17 : Int32) [(.int (7 : Int32)), (.int (11 : Int32)), (.int (2 : Int32)), (.int (4 : Int32)), (.int (7 : Int32)), (.int (7 : Int32)), (.int (2 : Int32)), (.int (5 : Int32)), (.int (3 : Int32)), (.int (1 : Int32)), (.int (3 : Int32)), (.int (3 : Int32)), (.int (4 : Int32)), (.int (0 : Int32)), (.int (0 : Int32)), (.int (1 : Int32)), (.int (0 : Int32))] (.int (0 : Int32)) := Arv.set Ar136 q136 S136 N136 H136 G136 rfl W136 15 rfl (Nat.le_of_ble_eq_true rfl)
  have V137 := V134.other W136 ne_b7_b85
  have V138 := V135.other W136 ne_b45_b85
  have N136' := Fr.snoc X136 N133' g_b85
  have EX136 : Ext h0 h136 := own_ext_wr EX133 W136 sz_b85
  have k139 : ∀ t, Steps p.tables e below (T136.setTop (mkF m 289 #[.val (.int p0), .val (.int p1), .val (.int p2), .val (.ref b7), .val (.ref b45), .unset, .unset, .unset, .unset, .unset, .unset] [(.ref b85), (.ref b85)])) t → Steps p.tables e below (s₁.setTop (entryFrame m #[(.int p0), (.int p1), (.int p2)] maxLocals)) t := fun t kt => k123 t (by
    show Steps p.tables e below (T120.setTop (mkF m 266 #[.val (.int p0), .val (.int p1), .val (.int p2), .val (.ref b7), .val (.ref b45), .unset, .unset, .unset, .unset, .unset, .unset] [(.int (11 : Int32)), (.ref b85), (.ref b85)])) _
    refine XS.iconst X120.here hx rfl (hb hby at_266) ?_
    show Steps p.tables e below (T120.setTop (mkF m 267 #[.val (.int p0), .val (.int p1), .val (.int p2), .val (.ref b7), .val (.ref b45), .unset, .unset, .unset, .unset, .unset, .unset] [(.int (3 : Int32)), (.int (11 : Int32)), (.ref b85), (.ref b85)])) _
    refine st124 _ ?_
    show Steps p.tables e below (T124.setTop (mkF m 268 #[.val (.int p0), .val (.int p1), .val (.int p2), .val (.ref b7), .val (.ref b45), .unset, .unset, .unset, .unset, .unset, .unset] [(.ref b85)])) _
    refine XS.dup X124.here hx rfl (hb hby at_268) rfl rfl ?_
    show Steps p.tables e below (T124.setTop (mkF m 269 #[.val (.int p0), .val (.int p1), .val (.int p2), .val (.ref b7), .val (.ref b45), .unset, .unset, .unset, .unset, .unset, .unset] [(.ref b85), (.ref b85)])) _
    refine XS.bipush X124.here hx rfl (hb hby at_269) ?_
    show Steps p.tables e below (T124.setTop (mkF m 271 #[.val (.int p0), .val (.int p1), .val (.int p2), .val (.ref b7), .val (.ref b45), .unset, .unset, .unset, .unset, .unset, .unset] [(.int (12 : Int32)), (.ref b85), (.ref b85)])) _
    refine XS.iconst X124.here hx rfl (hb hby at_271) ?_
    show Steps p.tables e below (T124.setTop (mkF m 272 #[.val (.int p0), .val (.int p1), .val (.int p2), .val (.ref b7), .val (.ref b45), .unset, .unset, .unset, .unset, .unset, .unset] [(.int (4 : Int32)), (.int (12 : Int32)), (.ref b85), (.ref b85)])) _
    refine st127 _ ?_
    show Steps p.tables e below (T127.setTop (mkF m 273 #[.val (.int p0), .val (.int p1), .val (.int p2), .val (.ref b7), .val (.ref b45), .unset, .unset, .unset, .unset, .unset, .unset] [(.ref b85)])) _
    refine XS.dup X127.here hx rfl (hb hby at_273) rfl rfl ?_
    show Steps p.tables e below (T127.setTop (mkF m 274 #[.val (.int p0), .val (.int p1), .val (.int p2), .val (.ref b7), .val (.ref b45), .unset, .unset, .unset, .unset, .unset, .unset] [(.ref b85), (.ref b85)])) _
    refine XS.bipush X127.here hx rfl (hb hby at_274) ?_
    show Steps p.tables e below (T127.setTop (mkF m 276 #[.val (.int p0), .val (.int p1), .val (.int p2), .val (.ref b7), .val (.ref b45), .unset, .unset, .unset, .unset, .unset, .unset] [(.int (13 : Int32)), (.ref b85), (.ref b85)])) _
    refine XS.iconst X127.here hx rfl (hb hby at_276) ?_
    show Steps p.tables e below (T127.setTop (mkF m 277 #[.val (.int p0), .val (.int p1), .val (.int p2), .val (.ref b7), .val (.ref b45), .unset, .unset, .unset, .unset, .unset, .unset] [(.int (0 : Int32)), (.int (13 : Int32)), (.ref b85), (.ref b85)])) _
    refine st130 _ ?_
    show Steps p.tables e below (T130.setTop (mkF m 278 #[.val (.int p0), .val (.int p1), .val (.int p2), .val (.ref b7), .val (.ref b45), .unset, .unset, .unset, .unset, .unset, .unset] [(.ref b85)])) _
    refine XS.dup X130.here hx rfl (hb hby at_278) rfl rfl ?_
    show Steps p.tables e below (T130.setTop (mkF m 279 #[.val (.int p0), .val (.int p1), .val (.int p2), .val (.ref b7), .val (.ref b45), .unset, .unset, .unset, .unset, .unset, .unset] [(.ref b85), (.ref b85)])) _
    refine XS.bipush X130.here hx rfl (hb hby at_279) ?_
    show Steps p.tables e below (T130.setTop (mkF m 281 #[.val (.int p0), .val (.int p1), .val (.int p2), .val (.ref b7), .val (.ref b45), .unset, .unset, .unset, .unset, .unset, .unset] [(.int (14 : Int32)), (.ref b85), (.ref b85)])) _
    refine XS.iconst X130.here hx rfl (hb hby at_281) ?_
    show Steps p.tables e below (T130.setTop (mkF m 282 #[.val (.int p0), .val (.int p1), .val (.int p2), .val (.ref b7), .val (.ref b45), .unset, .unset, .unset, .unset, .unset, .unset] [(.int (0 : Int32)), (.int (14 : Int32)), (.ref b85), (.ref b85)])) _
    refine st133 _ ?_
    show Steps p.tables e below (T133.setTop (mkF m 283 #[.val (.int p0), .val (.int p1), .val (.int p2), .val (.ref b7), .val (.ref b45), .unset, .unset, .unset, .unset, .unset, .unset] [(.ref b85)])) _
    refine XS.dup X133.here hx rfl (hb hby at_283) rfl rfl ?_
    show Steps p.tables e below (T133.setTop (mkF m 284 #[.val (.int p0), .val (.int p1), .val (.int p2), .val (.ref b7), .val (.ref b45), .unset, .unset, .unset, .unset, .unset, .unset] [(.ref b85), (.ref b85)])) _
    refine XS.bipush X133.here hx rfl (hb hby at_284) ?_
    show Steps p.tables e below (T133.setTop (mkF m 286 #[.val (.int p0), .val (.int p1), .val (.int p2), .val (.ref b7), .val (.ref b45), .unset, .unset, .unset, .unset, .unset, .unset] [(.int (15 : Int32)), (.ref b85), (.ref b85)])) _
    refine XS.iconst X133.here hx rfl (hb hby at_286) ?_
    show Steps p.tables e below (T133.setTop (mkF m 287 #[.val (.int p0), .val (.int p1), .val (.int p2), .val (.ref b7), .val (.ref b45), .unset, .unset, .unset, .unset, .unset, .unset] [(.int (1 : Int32)), (.int (15 : Int32)), (.ref b85), (.ref b85)])) _
    refine st136 _ ?_
    show Steps p.tables e below (T136.setTop (mkF m 288 #[.val (.int p0), .val (.int p1), .val (.int p2), .val (.ref b7), .val (.ref b45), .unset, .unset, .unset, .unset, .unset, .unset] [(.ref b85)])) _
    refine XS.dup X136.here hx rfl (hb hby at_288) rfl rfl ?_
    exact kt)
  obtain ⟨cl140, Ar140, q140, S140, N140, H140, G140⟩ := And.left ⟨V136, trivial⟩
  have hin140 : ¬ ((16 : Int32) < 0 ∨ cl140.slots.size ≤ ((16 : Int32)).toNatClampNeg) := inb_of S140 ⟨by decide, by decide⟩
  obtain ⟨T140, h140, X140, e140, W140, st140⟩ := stI X136 hx hZ e136 Ar140 (j := (16 : Int32)) hin140 (g := (mkF m 292 #[.val (.int p0), .val (.int p1), .val (.int p2), .val (.ref b7), .val (.ref b45), .unset, .unset, .unset, .unset, .unset, .unset] [(.int (3 : Int32)), (.int (16 : Int32)), (.ref b85), (.ref b85)])) rfl rfl (hb hby at_292)
  have V140 : Arv Z h140 b85 k85 .int (17 : Int32) [(.int (7 : Int32)), (.int (11 : Int32)), (.int (2 : Int32)), (.int (4 : Int32)), (.int (7 : Int32)), (.int (7 : Int32)), (.int (2 : Int32)), (.int (5 : Int32)), (.int (3 : Int32)), (.int (1 : Int32)), (.int (3 : Int32)), (.int (3 : Int32)), (.int (4 : Int32)), (.int (0 : Int32)), (.int (0 : Int32)), (.int (1 : Int32)), (.int (3 : Int32))] (.int (0 : Int32)) := Arv.set Ar140 q140 S140 N140 H140 G140 rfl W140 16 rfl (Nat.le_of_ble_eq_true rfl)
  have V141 := V137.other W140 ne_b7_b85
  have V142 := V138.other W140 ne_b45_b85
  have N140' := Fr.snoc X140 N136' g_b85
  have EX140 : Ext h0 h140 := own_ext_wr EX136 W140 sz_b85
  obtain ⟨i143, hi143⟩ : ∃ z, z = ((p0 &&& (2147483647 : Int32)) % (17 : Int32)) := ⟨_, rfl⟩
  obtain ⟨ai, lo, hi, ra, rl, rh, Ei, Fmin, Fmax, q1, q2, q3, q4, ig, il⟩ := own_idx (W0.ext EX140) hi143
  obtain ⟨i144, hi144⟩ : ∃ z, z = (p1 &&& (7 : Int32)) := ⟨_, rfl⟩
  have k145 : ∀ t, Steps p.tables e below (T140.setTop (mkF m 312 #[.val (.int p0), .val (.int p1), .val (.int p2), .val (.ref b7), .val (.ref b45), .val (.ref b85), .val (.int i143), .val (.int i144), .unset, .unset, .unset] [(.int i144)])) t → Steps p.tables e below (s₁.setTop (entryFrame m #[(.int p0), (.int p1), (.int p2)] maxLocals)) t := fun t kt => k139 t (by
    show Steps p.tables e below (T136.setTop (mkF m 289 #[.val (.int p0), .val (.int p1), .val (.int p2), .val (.ref b7), .val (.ref b45), .unset, .unset, .unset, .unset, .unset, .unset] [(.ref b85), (.ref b85)])) _
    refine XS.bipush X136.here hx rfl (hb hby at_289) ?_
    show Steps p.tables e below (T136.setTop (mkF m 291 #[.val (.int p0), .val (.int p1), .val (.int p2), .val (.ref b7), .val (.ref b45), .unset, .unset, .unset, .unset, .unset, .unset] [(.int (16 : Int32)), (.ref b85), (.ref b85)])) _
    refine XS.iconst X136.here hx rfl (hb hby at_291) ?_
    show Steps p.tables e below (T136.setTop (mkF m 292 #[.val (.int p0), .val (.int p1), .val (.int p2), .val (.ref b7), .val (.ref b45), .unset, .unset, .unset, .unset, .unset, .unset] [(.int (3 : Int32)), (.int (16 : Int32)), (.ref b85), (.ref b85)])) _
    refine st140 _ ?_
    show Steps p.tables e below (T140.setTop (mkF m 293 #[.val (.int p0), .val (.int p1), .val (.int p2), .val (.ref b7), .val (.ref b45), .unset, .unset, .unset, .unset, .unset, .unset] [(.ref b85)])) _
    refine XS.astore X140.here hx rfl (hb hby at_293) rfl rfl (l' := #[.val (.int p0), .val (.int p1), .val (.int p2), .val (.ref b7), .val (.ref b45), .val (.ref b85), .unset, .unset, .unset, .unset, .unset]) rfl ?_
    show Steps p.tables e below (T140.setTop (mkF m 295 #[.val (.int p0), .val (.int p1), .val (.int p2), .val (.ref b7), .val (.ref b45), .val (.ref b85), .unset, .unset, .unset, .unset, .unset] [])) _
    refine XS.iloadN X140.here hx rfl (hb hby at_295) rfl ?_
    show Steps p.tables e below (T140.setTop (mkF m 296 #[.val (.int p0), .val (.int p1), .val (.int p2), .val (.ref b7), .val (.ref b45), .val (.ref b85), .unset, .unset, .unset, .unset, .unset] [(.int p0)])) _
    refine X140.ldcInt hx hown (mvT hZ (hw _ (List.mem_of_getElem? (i := 39) rfl))) (g := (mkF m 296 #[.val (.int p0), .val (.int p1), .val (.int p2), .val (.ref b7), .val (.ref b45), .val (.ref b85), .unset, .unset, .unset, .unset, .unset] [(.int p0)])) rfl (hb hby at_296) _ ?_
    show Steps p.tables e below (T140.setTop (mkF m 298 #[.val (.int p0), .val (.int p1), .val (.int p2), .val (.ref b7), .val (.ref b45), .val (.ref b85), .unset, .unset, .unset, .unset, .unset] [(.int (2147483647 : Int32)), (.int p0)])) _
    refine XS.iand X140.here hx rfl (hb hby at_298) rfl ?_
    show Steps p.tables e below (T140.setTop (mkF m 299 #[.val (.int p0), .val (.int p1), .val (.int p2), .val (.ref b7), .val (.ref b45), .val (.ref b85), .unset, .unset, .unset, .unset, .unset] [(.int (p0 &&& (2147483647 : Int32)))])) _
    refine XS.bipush X140.here hx rfl (hb hby at_299) ?_
    show Steps p.tables e below (T140.setTop (mkF m 301 #[.val (.int p0), .val (.int p1), .val (.int p2), .val (.ref b7), .val (.ref b45), .val (.ref b85), .unset, .unset, .unset, .unset, .unset] [(.int (17 : Int32)), (.int (p0 &&& (2147483647 : Int32)))])) _
    refine iremM X140 hx rfl (hb hby at_301) rfl (by decide) ?_
    rw [← hi143]
    show Steps p.tables e below (T140.setTop (mkF m 302 #[.val (.int p0), .val (.int p1), .val (.int p2), .val (.ref b7), .val (.ref b45), .val (.ref b85), .unset, .unset, .unset, .unset, .unset] [(.int i143)])) _
    refine XS.istore X140.here hx rfl (hb hby at_302) rfl (l' := #[.val (.int p0), .val (.int p1), .val (.int p2), .val (.ref b7), .val (.ref b45), .val (.ref b85), .val (.int i143), .unset, .unset, .unset, .unset]) rfl ?_
    show Steps p.tables e below (T140.setTop (mkF m 304 #[.val (.int p0), .val (.int p1), .val (.int p2), .val (.ref b7), .val (.ref b45), .val (.ref b85), .val (.int i143), .unset, .unset, .unset, .unset] [])) _
    refine XS.iloadN X140.here hx rfl (hb hby at_304) rfl ?_
    show Steps p.tables e below (T140.setTop (mkF m 305 #[.val (.int p0), .val (.int p1), .val (.int p2), .val (.ref b7), .val (.ref b45), .val (.ref b85), .val (.int i143), .unset, .unset, .unset, .unset] [(.int p1)])) _
    refine XS.bipush X140.here hx rfl (hb hby at_305) ?_
    show Steps p.tables e below (T140.setTop (mkF m 307 #[.val (.int p0), .val (.int p1), .val (.int p2), .val (.ref b7), .val (.ref b45), .val (.ref b85), .val (.int i143), .unset, .unset, .unset, .unset] [(.int (7 : Int32)), (.int p1)])) _
    refine XS.iand X140.here hx rfl (hb hby at_307) rfl ?_
    rw [← hi144]
    show Steps p.tables e below (T140.setTop (mkF m 308 #[.val (.int p0), .val (.int p1), .val (.int p2), .val (.ref b7), .val (.ref b45), .val (.ref b85), .val (.int i143), .unset, .unset, .unset, .unset] [(.int i144)])) _
    refine XS.istore X140.here hx rfl (hb hby at_308) rfl (l' := #[.val (.int p0), .val (.int p1), .val (.int p2), .val (.ref b7), .val (.ref b45), .val (.ref b85), .val (.int i143), .val (.int i144), .unset, .unset, .unset]) rfl ?_
    show Steps p.tables e below (T140.setTop (mkF m 310 #[.val (.int p0), .val (.int p1), .val (.int p2), .val (.ref b7), .val (.ref b45), .val (.ref b85), .val (.int i143), .val (.int i144), .unset, .unset, .unset] [])) _
    refine XS.iload X140.here hx rfl (hb hby at_310) rfl ?_
    exact kt)
  by_cases hc146 : i144 = (0 : Int32)
  · obtain ⟨cla147, Ara147, qa147, Sa147, Na147, Ha147, Ga147⟩ := And.left ⟨V142, trivial⟩
    have hina147 : ¬ (i143 < 0 ∨ cla147.slots.size ≤ (i143).toNatClampNeg) := inb_of Sa147 ⟨ig, il⟩
    obtain ⟨i148, hi148⟩ : ∃ z, z = (lo - (1 : Int32)) := ⟨_, rfl⟩
    have hl149 : (i148.toInt16.toInt32) = i148 := by rw [hi148]; exact q1
    obtain ⟨cla150, Ara150, qa150, Sa150, Na150, Ha150, Ga150⟩ := And.left ⟨V142, trivial⟩
    have hina150 : ¬ (i143 < 0 ∨ cla150.slots.size ≤ (i143).toNatClampNeg) := inb_of Sa150 ⟨ig, il⟩
    have k151 : ∀ t, Steps p.tables e below (T140.setTop (mkF m 393 #[.val (.int p0), .val (.int p1), .val (.int p2), .val (.ref b7), .val (.ref b45), .val (.ref b85), .val (.int i143), .val (.int i144), .val (.int i148), .val (.int i148), .unset] [(.int lo), (.int i148)])) t → Steps p.tables e below (s₁.setTop (entryFrame m #[(.int p0), (.int p1), (.int p2)] maxLocals)) t := fun t kt => k145 t (by
      show Steps p.tables e below (T140.setTop (mkF m 312 #[.val (.int p0), .val (.int p1), .val (.int p2), .val (.ref b7), .val (.ref b45), .val (.ref b85), .val (.int i143), .val (.int i144), .unset, .unset, .unset] [(.int i144)])) _
      refine XS.ifNo X140.here hx rfl (hb hby at_312) rfl ((if0 _ _).trans (teq (hc146 : i144 = (0 : Int32))).2) ?_
      show Steps p.tables e below (T140.setTop (mkF m 315 #[.val (.int p0), .val (.int p1), .val (.int p2), .val (.ref b7), .val (.ref b45), .val (.ref b85), .val (.int i143), .val (.int i144), .unset, .unset, .unset] [])) _
      refine XS.aload X140.here hx rfl (hb hby at_315) rfl rfl ?_
      show Steps p.tables e below (T140.setTop (mkF m 317 #[.val (.int p0), .val (.int p1), .val (.int p2), .val (.ref b7), .val (.ref b45), .val (.ref b85), .val (.int i143), .val (.int i144), .unset, .unset, .unset] [(.ref b45)])) _
      refine XS.iload X140.here hx rfl (hb hby at_317) rfl ?_
      show Steps p.tables e below (T140.setTop (mkF m 319 #[.val (.int p0), .val (.int p1), .val (.int p2), .val (.ref b7), .val (.ref b45), .val (.ref b85), .val (.int i143), .val (.int i144), .unset, .unset, .unset] [(.int i143), (.ref b45)])) _
      refine X140.iaload hx (j := i143) (v := (.int lo)) (by rw [e140]; exact Ara147.1) (State.isArrayOf_alike hZ.alike Ara147.2.1) Ara147.2.2 hina147 (Ha147.at hina147 rl) (g := (mkF m 319 #[.val (.int p0), .val (.int p1), .val (.int p2), .val (.ref b7), .val (.ref b45), .val (.ref b85), .val (.int i143), .val (.int i144), .unset, .unset, .unset] [(.int i143), (.ref b45)])) rfl rfl (hb hby at_319) _ ?_
      show Steps p.tables e below (T140.setTop (mkF m 320 #[.val (.int p0), .val (.int p1), .val (.int p2), .val (.ref b7), .val (.ref b45), .val (.ref b85), .val (.int i143), .val (.int i144), .unset, .unset, .unset] [(.int lo)])) _
      refine XS.iconst X140.here hx rfl (hb hby at_320) ?_
      show Steps p.tables e below (T140.setTop (mkF m 321 #[.val (.int p0), .val (.int p1), .val (.int p2), .val (.ref b7), .val (.ref b45), .val (.ref b85), .val (.int i143), .val (.int i144), .unset, .unset, .unset] [(.int (1 : Int32)), (.int lo)])) _
      refine XS.isub X140.here hx rfl (hb hby at_321) rfl ?_
      rw [← hi148]
      show Steps p.tables e below (T140.setTop (mkF m 322 #[.val (.int p0), .val (.int p1), .val (.int p2), .val (.ref b7), .val (.ref b45), .val (.ref b85), .val (.int i143), .val (.int i144), .unset, .unset, .unset] [(.int i148)])) _
      refine XS.istore X140.here hx rfl (hb hby at_322) rfl (l' := #[.val (.int p0), .val (.int p1), .val (.int p2), .val (.ref b7), .val (.ref b45), .val (.ref b85), .val (.int i143), .val (.int i144), .val (.int i148), .unset, .unset]) rfl ?_
      show Steps p.tables e below (T140.setTop (mkF m 324 #[.val (.int p0), .val (.int p1), .val (.int p2), .val (.ref b7), .val (.ref b45), .val (.ref b85), .val (.int i143), .val (.int i144), .val (.int i148), .unset, .unset] [])) _
      refine XS.goto X140.here hx rfl (pc0 := 324) (pc' := 381) rfl (hb hby at_324) (by decide) (by decide) ?_
      show Steps p.tables e below (T140.setTop (mkF m 381 #[.val (.int p0), .val (.int p1), .val (.int p2), .val (.ref b7), .val (.ref b45), .val (.ref b85), .val (.int i143), .val (.int i144), .val (.int i148), .unset, .unset] [])) _
      refine XS.iload X140.here hx rfl (hb hby at_381) rfl ?_
      show Steps p.tables e below (T140.setTop (mkF m 383 #[.val (.int p0), .val (.int p1), .val (.int p2), .val (.ref b7), .val (.ref b45), .val (.ref b85), .val (.int i143), .val (.int i144), .val (.int i148), .unset, .unset] [(.int i148)])) _
      refine XS.i2s X140.here hx rfl (hb hby at_383) rfl ?_
      rw [hl149]
      show Steps p.tables e below (T140.setTop (mkF m 384 #[.val (.int p0), .val (.int p1), .val (.int p2), .val (.ref b7), .val (.ref b45), .val (.ref b85), .val (.int i143), .val (.int i144), .val (.int i148), .unset, .unset] [(.int i148)])) _
      refine XS.istore X140.here hx rfl (hb hby at_384) rfl (l' := #[.val (.int p0), .val (.int p1), .val (.int p2), .val (.ref b7), .val (.ref b45), .val (.ref b85), .val (.int i143), .val (.int i144), .val (.int i148), .val (.int i148), .unset]) rfl ?_
      show Steps p.tables e below (T140.setTop (mkF m 386 #[.val (.int p0), .val (.int p1), .val (.int p2), .val (.ref b7), .val (.ref b45), .val (.ref b85), .val (.int i143), .val (.int i144), .val (.int i148), .val (.int i148), .unset] [])) _
      refine XS.iload X140.here hx rfl (hb hby at_386) rfl ?_
      show Steps p.tables e below (T140.setTop (mkF m 388 #[.val (.int p0), .val (.int p1), .val (.int p2), .val (.ref b7), .val (.ref b45), .val (.ref b85), .val (.int i143), .val (.int i144), .val (.int i148), .val (.int i148), .unset] [(.int i148)])) _
      refine XS.aload X140.here hx rfl (hb hby at_388) rfl rfl ?_
      show Steps p.tables e below (T140.setTop (mkF m 390 #[.val (.int p0), .val (.int p1), .val (.int p2), .val (.ref b7), .val (.ref b45), .val (.ref b85), .val (.int i143), .val (.int i144), .val (.int i148), .val (.int i148), .unset] [(.ref b45), (.int i148)])) _
      refine XS.iload X140.here hx rfl (hb hby at_390) rfl ?_
      show Steps p.tables e below (T140.setTop (mkF m 392 #[.val (.int p0), .val (.int p1), .val (.int p2), .val (.ref b7), .val (.ref b45), .val (.ref b85), .val (.int i143), .val (.int i144), .val (.int i148), .val (.int i148), .unset] [(.int i143), (.ref b45), (.int i148)])) _
      refine X140.iaload hx (j := i143) (v := (.int lo)) (by rw [e140]; exact Ara150.1) (State.isArrayOf_alike hZ.alike Ara150.2.1) Ara150.2.2 hina150 (Ha150.at hina150 rl) (g := (mkF m 392 #[.val (.int p0), .val (.int p1), .val (.int p2), .val (.ref b7), .val (.ref b45), .val (.ref b85), .val (.int i143), .val (.int i144), .val (.int i148), .val (.int i148), .unset] [(.int i143), (.ref b45), (.int i148)])) rfl rfl (hb hby at_392) _ ?_
      exact kt)
    by_cases hc152 : i148 < lo
    · obtain ⟨cla153, Ara153, qa153, Sa153, Na153, Ha153, Ga153⟩ := And.left ⟨V141, trivial⟩
      have hina153 : ¬ (i143 < 0 ∨ cla153.slots.size ≤ (i143).toNatClampNeg) := inb_of Sa153 ⟨ig, il⟩
      obtain ⟨cq154, kq154, q154a, q154b, q154c⟩ := isOf hZ e140 Ei
      obtain ⟨_, _, ⟨T154, L154, k154, n154⟩, -, X154, ⟨Lc154, hQ154, l154, y154, z154⟩, st154⟩ := X140.virtualBack hx (y := (⟨"com/example/idem_log/idemlog/protocol/Api", "serves", "(S)Z"⟩ : MethodName)) (z := (⟨"com/example/idem_log/idemlog/protocol/Api", "serves", "(S)Z"⟩ : MethodName)) hown (mvT hZ (hw _ (List.mem_of_getElem? (i := 40) rfl))) (mvT hZ (hw _ (List.mem_of_getElem? (i := 41) rfl))) (notFace_of_selects (args := #[]) (mvT hZ (hw _ (List.mem_of_getElem? (i := 43) rfl)))) (mvT hZ (hw _ (List.mem_of_getElem? (i := 43) rfl))) (mvT hZ (hw _ (List.mem_of_getElem? (i := 42) rfl))) (by decide) (backOf (W := 0) (rm1 l Z a0 hw [] ai i148 lo hi h140 n0 (Nat.le_trans Z0 EX140.1) Fmin Fmax) hZ (hw _ (List.mem_of_getElem? (i := 44) rfl)) (hw _ (List.mem_of_getElem? (i := 3) rfl)) (by decide) (by decide)) q154a q154c (g := (mkF m 419 #[.val (.int p0), .val (.int p1), .val (.int p2), .val (.ref b7), .val (.ref b45), .val (.ref b85), .val (.int i143), .val (.int i144), .val (.int i148), .val (.int i148), .val (.int (0 : Int32))] [(.int i148), (.ref ai)])) rfl (by rw [hml]; rfl) (Steps.refl _) (argsL := [(.int i148)]) (rest := []) (lenOf pd_0 rfl) rfl (by show 2 * 0 + _ ≤ _; exact Nat.le_of_eq rfl) (hb hby at_419) (fun _ _ => ⟨rfl, e140, (by decide : 3 + 0 ≤ _), (by decide : 51 + 0 ≤ _)⟩)
      dsimp only [Pt.U, Pt.locs, Pt.cells, Pt.slots] at X154 l154 y154 z154 st154 hQ154
      rw [l154, y154, z154] at X154
      unfold Q1 at hQ154
      have k155 : ∀ t, Steps p.tables e below (T140.setTop (mkF m 419 #[.val (.int p0), .val (.int p1), .val (.int p2), .val (.ref b7), .val (.ref b45), .val (.ref b85), .val (.int i143), .val (.int i144), .val (.int i148), .val (.int i148), .val (.int (0 : Int32))] [(.int i148), (.ref ai)])) t → Steps p.tables e below (s₁.setTop (entryFrame m #[(.int p0), (.int p1), (.int p2)] maxLocals)) t := fun t kt => k151 t (by
        show Steps p.tables e below (T140.setTop (mkF m 393 #[.val (.int p0), .val (.int p1), .val (.int p2), .val (.ref b7), .val (.ref b45), .val (.ref b85), .val (.int i143), .val (.int i144), .val (.int i148), .val (.int i148), .unset] [(.int lo), (.int i148)])) _
        refine XS.icmpYes X140.here hx rfl (pc0 := 393) (pc' := 410) rfl (hb hby at_393) rfl (tlt (hc152 : i148 < lo)).1 (by decide) (by decide) ?_
        show Steps p.tables e below (T140.setTop (mkF m 410 #[.val (.int p0), .val (.int p1), .val (.int p2), .val (.ref b7), .val (.ref b45), .val (.ref b85), .val (.int i143), .val (.int i144), .val (.int i148), .val (.int i148), .unset] [])) _
        refine XS.iconst X140.here hx rfl (hb hby at_410) ?_
        show Steps p.tables e below (T140.setTop (mkF m 411 #[.val (.int p0), .val (.int p1), .val (.int p2), .val (.ref b7), .val (.ref b45), .val (.ref b85), .val (.int i143), .val (.int i144), .val (.int i148), .val (.int i148), .unset] [(.int (0 : Int32))])) _
        refine XS.istore X140.here hx rfl (hb hby at_411) rfl (l' := #[.val (.int p0), .val (.int p1), .val (.int p2), .val (.ref b7), .val (.ref b45), .val (.ref b85), .val (.int i143), .val (.int i144), .val (.int i148), .val (.int i148), .val (.int (0 : Int32))]) rfl ?_
        show Steps p.tables e below (T140.setTop (mkF m 413 #[.val (.int p0), .val (.int p1), .val (.int p2), .val (.ref b7), .val (.ref b45), .val (.ref b85), .val (.int i143), .val (.int i144), .val (.int i148), .val (.int i148), .val (.int (0 : Int32))] [])) _
        refine XS.aloadN X140.here hx rfl (hb hby at_413) rfl rfl ?_
        show Steps p.tables e below (T140.setTop (mkF m 414 #[.val (.int p0), .val (.int p1), .val (.int p2), .val (.ref b7), .val (.ref b45), .val (.ref b85), .val (.int i143), .val (.int i144), .val (.int i148), .val (.int i148), .val (.int (0 : Int32))] [(.ref b7)])) _
        refine XS.iload X140.here hx rfl (hb hby at_414) rfl ?_
        show Steps p.tables e below (T140.setTop (mkF m 416 #[.val (.int p0), .val (.int p1), .val (.int p2), .val (.ref b7), .val (.ref b45), .val (.ref b85), .val (.int i143), .val (.int i144), .val (.int i148), .val (.int i148), .val (.int (0 : Int32))] [(.int i143), (.ref b7)])) _
        refine X140.aaload hx (j := i143) (v := (.ref ai)) (by rw [e140]; exact Ara153.1) (State.isArrayOf_alike hZ.alike Ara153.2.1) rfl Ara153.2.2 hina153 (Ha153.at hina153 ra) (g := (mkF m 416 #[.val (.int p0), .val (.int p1), .val (.int p2), .val (.ref b7), .val (.ref b45), .val (.ref b85), .val (.int i143), .val (.int i144), .val (.int i148), .val (.int i148), .val (.int (0 : Int32))] [(.int i143), (.ref b7)])) rfl rfl (hb hby at_416) _ ?_
        show Steps p.tables e below (T140.setTop (mkF m 417 #[.val (.int p0), .val (.int p1), .val (.int p2), .val (.ref b7), .val (.ref b45), .val (.ref b85), .val (.int i143), .val (.int i144), .val (.int i148), .val (.int i148), .val (.int (0 : Int32))] [(.ref ai)])) _
        refine XS.iload X140.here hx rfl (hb hby at_417) rfl ?_
        exact kt)
      rw [((by rw [f1, if_pos (hc152 : i148 < lo)]) : (f1 ai i148 lo hi) = (0 : Int32))] at hQ154
      obtain ⟨rfl, N154q, e154⟩ := hQ154
      have N154 := Fr.app N140' N154q
      obtain ⟨fs, hr, hrun, hended, hW, hsame⟩ := X154.leave (v := some (.int (1 : Int32))) (fun h => by rw [Bd.returns] at h; cases h)
      refine ⟨_, _, k155 _ ?_, hrun, hended, _, _, rfl, ?_, ⟨_, rfl⟩, hW, hsame.mono (by decide) (by decide)⟩
      · show Steps p.tables e below (T140.setTop (mkF m 419 #[.val (.int p0), .val (.int p1), .val (.int p2), .val (.ref b7), .val (.ref b45), .val (.ref b85), .val (.int i143), .val (.int i144), .val (.int i148), .val (.int i148), .val (.int (0 : Int32))] [(.int i148), (.ref ai)])) _
        refine st154.trans ?_
        show Steps p.tables e below (T154.setTop (mkF m 422 #[.val (.int p0), .val (.int p1), .val (.int p2), .val (.ref b7), .val (.ref b45), .val (.ref b85), .val (.int i143), .val (.int i144), .val (.int i148), .val (.int i148), .val (.int (0 : Int32))] [(.int (0 : Int32))])) _
        refine XS.iload X154.here hx rfl (hb hby at_422) rfl ?_
        show Steps p.tables e below (T154.setTop (mkF m 424 #[.val (.int p0), .val (.int p1), .val (.int p2), .val (.ref b7), .val (.ref b45), .val (.ref b85), .val (.int i143), .val (.int i144), .val (.int i148), .val (.int i148), .val (.int (0 : Int32))] [(.int (0 : Int32)), (.int (0 : Int32))])) _
        refine XS.icmpNo X154.here hx rfl (hb hby at_424) rfl (teq (rfl : (0 : Int32) = (0 : Int32))).2 ?_
        show Steps p.tables e below (T154.setTop (mkF m 427 #[.val (.int p0), .val (.int p1), .val (.int p2), .val (.ref b7), .val (.ref b45), .val (.ref b85), .val (.int i143), .val (.int i144), .val (.int i148), .val (.int i148), .val (.int (0 : Int32))] [])) _
        refine XS.iconst X154.here hx rfl (hb hby at_427) ?_
        show Steps p.tables e below (T154.setTop (mkF m 428 #[.val (.int p0), .val (.int p1), .val (.int p2), .val (.ref b7), .val (.ref b45), .val (.ref b85), .val (.int i143), .val (.int i144), .val (.int i148), .val (.int i148), .val (.int (0 : Int32))] [(.int (1 : Int32))])) _
        refine XS.goto X154.here hx rfl (pc0 := 428) (pc' := 432) rfl (hb hby at_428) (by decide) (by decide) ?_
        show Steps p.tables e below (T154.setTop (mkF m 432 #[.val (.int p0), .val (.int p1), .val (.int p2), .val (.ref b7), .val (.ref b45), .val (.ref b85), .val (.int i143), .val (.int i144), .val (.int i148), .val (.int i148), .val (.int (0 : Int32))] [(.int (1 : Int32))])) _
        exact retN X154 hx (t := .boolean) Bd.returns (by simp) (hb hby at_432) hr
      · show Q0 Z p0 p1 p2 wPRODUCE wFETCH wLIST_OFFSETS wMETADATA wOFFSET_COMMIT wOFFSET_FETCH wFIND_COORDINATOR wJOIN_GROUP wHEARTBEAT wLEAVE_GROUP wSYNC_GROUP wAPI_VERSIONS wINIT_PRODUCER_ID wADD_PARTITIONS_TO_TXN wADD_OFFSETS_TO_TXN wEND_TXN wTXN_OFFSET_COMMIT h0 n0 _ T154.heap _
        rw [e154]
        exact ⟨rfl, N154⟩
    · obtain ⟨cla156, Ara156, qa156, Sa156, Na156, Ha156, Ga156⟩ := And.left ⟨V140, trivial⟩
      have hina156 : ¬ (i143 < 0 ∨ cla156.slots.size ≤ (i143).toNatClampNeg) := inb_of Sa156 ⟨ig, il⟩
      have k157 : ∀ t, Steps p.tables e below (T140.setTop (mkF m 403 #[.val (.int p0), .val (.int p1), .val (.int p2), .val (.ref b7), .val (.ref b45), .val (.ref b85), .val (.int i143), .val (.int i144), .val (.int i148), .val (.int i148), .unset] [(.int hi), (.int i148)])) t → Steps p.tables e below (s₁.setTop (entryFrame m #[(.int p0), (.int p1), (.int p2)] maxLocals)) t := fun t kt => k151 t (by
        show Steps p.tables e below (T140.setTop (mkF m 393 #[.val (.int p0), .val (.int p1), .val (.int p2), .val (.ref b7), .val (.ref b45), .val (.ref b85), .val (.int i143), .val (.int i144), .val (.int i148), .val (.int i148), .unset] [(.int lo), (.int i148)])) _
        refine XS.icmpNo X140.here hx rfl (hb hby at_393) rfl (flt (hc152 : ¬ (i148 < lo))).1 ?_
        show Steps p.tables e below (T140.setTop (mkF m 396 #[.val (.int p0), .val (.int p1), .val (.int p2), .val (.ref b7), .val (.ref b45), .val (.ref b85), .val (.int i143), .val (.int i144), .val (.int i148), .val (.int i148), .unset] [])) _
        refine XS.iload X140.here hx rfl (hb hby at_396) rfl ?_
        show Steps p.tables e below (T140.setTop (mkF m 398 #[.val (.int p0), .val (.int p1), .val (.int p2), .val (.ref b7), .val (.ref b45), .val (.ref b85), .val (.int i143), .val (.int i144), .val (.int i148), .val (.int i148), .unset] [(.int i148)])) _
        refine XS.aload X140.here hx rfl (hb hby at_398) rfl rfl ?_
        show Steps p.tables e below (T140.setTop (mkF m 400 #[.val (.int p0), .val (.int p1), .val (.int p2), .val (.ref b7), .val (.ref b45), .val (.ref b85), .val (.int i143), .val (.int i144), .val (.int i148), .val (.int i148), .unset] [(.ref b85), (.int i148)])) _
        refine XS.iload X140.here hx rfl (hb hby at_400) rfl ?_
        show Steps p.tables e below (T140.setTop (mkF m 402 #[.val (.int p0), .val (.int p1), .val (.int p2), .val (.ref b7), .val (.ref b45), .val (.ref b85), .val (.int i143), .val (.int i144), .val (.int i148), .val (.int i148), .unset] [(.int i143), (.ref b85), (.int i148)])) _
        refine X140.iaload hx (j := i143) (v := (.int hi)) (by rw [e140]; exact Ara156.1) (State.isArrayOf_alike hZ.alike Ara156.2.1) Ara156.2.2 hina156 (Ha156.at hina156 rh) (g := (mkF m 402 #[.val (.int p0), .val (.int p1), .val (.int p2), .val (.ref b7), .val (.ref b45), .val (.ref b85), .val (.int i143), .val (.int i144), .val (.int i148), .val (.int i148), .unset] [(.int i143), (.ref b85), (.int i148)])) rfl rfl (hb hby at_402) _ ?_
        exact kt)
      by_cases hc158 : hi < i148
      · obtain ⟨cla159, Ara159, qa159, Sa159, Na159, Ha159, Ga159⟩ := And.left ⟨V141, trivial⟩
        have hina159 : ¬ (i143 < 0 ∨ cla159.slots.size ≤ (i143).toNatClampNeg) := inb_of Sa159 ⟨ig, il⟩
        obtain ⟨cq160, kq160, q160a, q160b, q160c⟩ := isOf hZ e140 Ei
        obtain ⟨_, _, ⟨T160, L160, k160, n160⟩, -, X160, ⟨Lc160, hQ160, l160, y160, z160⟩, st160⟩ := X140.virtualBack hx (y := (⟨"com/example/idem_log/idemlog/protocol/Api", "serves", "(S)Z"⟩ : MethodName)) (z := (⟨"com/example/idem_log/idemlog/protocol/Api", "serves", "(S)Z"⟩ : MethodName)) hown (mvT hZ (hw _ (List.mem_of_getElem? (i := 40) rfl))) (mvT hZ (hw _ (List.mem_of_getElem? (i := 41) rfl))) (notFace_of_selects (args := #[]) (mvT hZ (hw _ (List.mem_of_getElem? (i := 43) rfl)))) (mvT hZ (hw _ (List.mem_of_getElem? (i := 43) rfl))) (mvT hZ (hw _ (List.mem_of_getElem? (i := 42) rfl))) (by decide) (backOf (W := 0) (rm1 l Z a0 hw [] ai i148 lo hi h140 n0 (Nat.le_trans Z0 EX140.1) Fmin Fmax) hZ (hw _ (List.mem_of_getElem? (i := 44) rfl)) (hw _ (List.mem_of_getElem? (i := 3) rfl)) (by decide) (by decide)) q160a q160c (g := (mkF m 419 #[.val (.int p0), .val (.int p1), .val (.int p2), .val (.ref b7), .val (.ref b45), .val (.ref b85), .val (.int i143), .val (.int i144), .val (.int i148), .val (.int i148), .val (.int (0 : Int32))] [(.int i148), (.ref ai)])) rfl (by rw [hml]; rfl) (Steps.refl _) (argsL := [(.int i148)]) (rest := []) (lenOf pd_0 rfl) rfl (by show 2 * 0 + _ ≤ _; exact Nat.le_of_eq rfl) (hb hby at_419) (fun _ _ => ⟨rfl, e140, (by decide : 3 + 0 ≤ _), (by decide : 51 + 0 ≤ _)⟩)
        dsimp only [Pt.U, Pt.locs, Pt.cells, Pt.slots] at X160 l160 y160 z160 st160 hQ160
        rw [l160, y160, z160] at X160
        unfold Q1 at hQ160
        have k161 : ∀ t, Steps p.tables e below (T140.setTop (mkF m 419 #[.val (.int p0), .val (.int p1), .val (.int p2), .val (.ref b7), .val (.ref b45), .val (.ref b85), .val (.int i143), .val (.int i144), .val (.int i148), .val (.int i148), .val (.int (0 : Int32))] [(.int i148), (.ref ai)])) t → Steps p.tables e below (s₁.setTop (entryFrame m #[(.int p0), (.int p1), (.int p2)] maxLocals)) t := fun t kt => k157 t (by
          show Steps p.tables e below (T140.setTop (mkF m 403 #[.val (.int p0), .val (.int p1), .val (.int p2), .val (.ref b7), .val (.ref b45), .val (.ref b85), .val (.int i143), .val (.int i144), .val (.int i148), .val (.int i148), .unset] [(.int hi), (.int i148)])) _
          refine XS.icmpYes X140.here hx rfl (pc0 := 403) (pc' := 410) rfl (hb hby at_403) rfl (tlt (hc158 : hi < i148)).2.2.1 (by decide) (by decide) ?_
          show Steps p.tables e below (T140.setTop (mkF m 410 #[.val (.int p0), .val (.int p1), .val (.int p2), .val (.ref b7), .val (.ref b45), .val (.ref b85), .val (.int i143), .val (.int i144), .val (.int i148), .val (.int i148), .unset] [])) _
          refine XS.iconst X140.here hx rfl (hb hby at_410) ?_
          show Steps p.tables e below (T140.setTop (mkF m 411 #[.val (.int p0), .val (.int p1), .val (.int p2), .val (.ref b7), .val (.ref b45), .val (.ref b85), .val (.int i143), .val (.int i144), .val (.int i148), .val (.int i148), .unset] [(.int (0 : Int32))])) _
          refine XS.istore X140.here hx rfl (hb hby at_411) rfl (l' := #[.val (.int p0), .val (.int p1), .val (.int p2), .val (.ref b7), .val (.ref b45), .val (.ref b85), .val (.int i143), .val (.int i144), .val (.int i148), .val (.int i148), .val (.int (0 : Int32))]) rfl ?_
          show Steps p.tables e below (T140.setTop (mkF m 413 #[.val (.int p0), .val (.int p1), .val (.int p2), .val (.ref b7), .val (.ref b45), .val (.ref b85), .val (.int i143), .val (.int i144), .val (.int i148), .val (.int i148), .val (.int (0 : Int32))] [])) _
          refine XS.aloadN X140.here hx rfl (hb hby at_413) rfl rfl ?_
          show Steps p.tables e below (T140.setTop (mkF m 414 #[.val (.int p0), .val (.int p1), .val (.int p2), .val (.ref b7), .val (.ref b45), .val (.ref b85), .val (.int i143), .val (.int i144), .val (.int i148), .val (.int i148), .val (.int (0 : Int32))] [(.ref b7)])) _
          refine XS.iload X140.here hx rfl (hb hby at_414) rfl ?_
          show Steps p.tables e below (T140.setTop (mkF m 416 #[.val (.int p0), .val (.int p1), .val (.int p2), .val (.ref b7), .val (.ref b45), .val (.ref b85), .val (.int i143), .val (.int i144), .val (.int i148), .val (.int i148), .val (.int (0 : Int32))] [(.int i143), (.ref b7)])) _
          refine X140.aaload hx (j := i143) (v := (.ref ai)) (by rw [e140]; exact Ara159.1) (State.isArrayOf_alike hZ.alike Ara159.2.1) rfl Ara159.2.2 hina159 (Ha159.at hina159 ra) (g := (mkF m 416 #[.val (.int p0), .val (.int p1), .val (.int p2), .val (.ref b7), .val (.ref b45), .val (.ref b85), .val (.int i143), .val (.int i144), .val (.int i148), .val (.int i148), .val (.int (0 : Int32))] [(.int i143), (.ref b7)])) rfl rfl (hb hby at_416) _ ?_
          show Steps p.tables e below (T140.setTop (mkF m 417 #[.val (.int p0), .val (.int p1), .val (.int p2), .val (.ref b7), .val (.ref b45), .val (.ref b85), .val (.int i143), .val (.int i144), .val (.int i148), .val (.int i148), .val (.int (0 : Int32))] [(.ref ai)])) _
          refine XS.iload X140.here hx rfl (hb hby at_417) rfl ?_
          exact kt)
        rw [((by rw [f1, if_neg (hc152 : ¬ (i148 < lo)), if_pos (hc158 : hi < i148)]) : (f1 ai i148 lo hi) = (0 : Int32))] at hQ160
        obtain ⟨rfl, N160q, e160⟩ := hQ160
        have N160 := Fr.app N140' N160q
        obtain ⟨fs, hr, hrun, hended, hW, hsame⟩ := X160.leave (v := some (.int (1 : Int32))) (fun h => by rw [Bd.returns] at h; cases h)
        refine ⟨_, _, k161 _ ?_, hrun, hended, _, _, rfl, ?_, ⟨_, rfl⟩, hW, hsame.mono (by decide) (by decide)⟩
        · show Steps p.tables e below (T140.setTop (mkF m 419 #[.val (.int p0), .val (.int p1), .val (.int p2), .val (.ref b7), .val (.ref b45), .val (.ref b85), .val (.int i143), .val (.int i144), .val (.int i148), .val (.int i148), .val (.int (0 : Int32))] [(.int i148), (.ref ai)])) _
          refine st160.trans ?_
          show Steps p.tables e below (T160.setTop (mkF m 422 #[.val (.int p0), .val (.int p1), .val (.int p2), .val (.ref b7), .val (.ref b45), .val (.ref b85), .val (.int i143), .val (.int i144), .val (.int i148), .val (.int i148), .val (.int (0 : Int32))] [(.int (0 : Int32))])) _
          refine XS.iload X160.here hx rfl (hb hby at_422) rfl ?_
          show Steps p.tables e below (T160.setTop (mkF m 424 #[.val (.int p0), .val (.int p1), .val (.int p2), .val (.ref b7), .val (.ref b45), .val (.ref b85), .val (.int i143), .val (.int i144), .val (.int i148), .val (.int i148), .val (.int (0 : Int32))] [(.int (0 : Int32)), (.int (0 : Int32))])) _
          refine XS.icmpNo X160.here hx rfl (hb hby at_424) rfl (teq (rfl : (0 : Int32) = (0 : Int32))).2 ?_
          show Steps p.tables e below (T160.setTop (mkF m 427 #[.val (.int p0), .val (.int p1), .val (.int p2), .val (.ref b7), .val (.ref b45), .val (.ref b85), .val (.int i143), .val (.int i144), .val (.int i148), .val (.int i148), .val (.int (0 : Int32))] [])) _
          refine XS.iconst X160.here hx rfl (hb hby at_427) ?_
          show Steps p.tables e below (T160.setTop (mkF m 428 #[.val (.int p0), .val (.int p1), .val (.int p2), .val (.ref b7), .val (.ref b45), .val (.ref b85), .val (.int i143), .val (.int i144), .val (.int i148), .val (.int i148), .val (.int (0 : Int32))] [(.int (1 : Int32))])) _
          refine XS.goto X160.here hx rfl (pc0 := 428) (pc' := 432) rfl (hb hby at_428) (by decide) (by decide) ?_
          show Steps p.tables e below (T160.setTop (mkF m 432 #[.val (.int p0), .val (.int p1), .val (.int p2), .val (.ref b7), .val (.ref b45), .val (.ref b85), .val (.int i143), .val (.int i144), .val (.int i148), .val (.int i148), .val (.int (0 : Int32))] [(.int (1 : Int32))])) _
          exact retN X160 hx (t := .boolean) Bd.returns (by simp) (hb hby at_432) hr
        · show Q0 Z p0 p1 p2 wPRODUCE wFETCH wLIST_OFFSETS wMETADATA wOFFSET_COMMIT wOFFSET_FETCH wFIND_COORDINATOR wJOIN_GROUP wHEARTBEAT wLEAVE_GROUP wSYNC_GROUP wAPI_VERSIONS wINIT_PRODUCER_ID wADD_PARTITIONS_TO_TXN wADD_OFFSETS_TO_TXN wEND_TXN wTXN_OFFSET_COMMIT h0 n0 _ T160.heap _
          rw [e160]
          exact ⟨rfl, N160⟩
      · obtain ⟨cla162, Ara162, qa162, Sa162, Na162, Ha162, Ga162⟩ := And.left ⟨V141, trivial⟩
        have hina162 : ¬ (i143 < 0 ∨ cla162.slots.size ≤ (i143).toNatClampNeg) := inb_of Sa162 ⟨ig, il⟩
        obtain ⟨cq163, kq163, q163a, q163b, q163c⟩ := isOf hZ e140 Ei
        obtain ⟨_, _, ⟨T163, L163, k163, n163⟩, -, X163, ⟨Lc163, hQ163, l163, y163, z163⟩, st163⟩ := X140.virtualBack hx (y := (⟨"com/example/idem_log/idemlog/protocol/Api", "serves", "(S)Z"⟩ : MethodName)) (z := (⟨"com/example/idem_log/idemlog/protocol/Api", "serves", "(S)Z"⟩ : MethodName)) hown (mvT hZ (hw _ (List.mem_of_getElem? (i := 40) rfl))) (mvT hZ (hw _ (List.mem_of_getElem? (i := 41) rfl))) (notFace_of_selects (args := #[]) (mvT hZ (hw _ (List.mem_of_getElem? (i := 43) rfl)))) (mvT hZ (hw _ (List.mem_of_getElem? (i := 43) rfl))) (mvT hZ (hw _ (List.mem_of_getElem? (i := 42) rfl))) (by decide) (backOf (W := 0) (rm1 l Z a0 hw [] ai i148 lo hi h140 n0 (Nat.le_trans Z0 EX140.1) Fmin Fmax) hZ (hw _ (List.mem_of_getElem? (i := 44) rfl)) (hw _ (List.mem_of_getElem? (i := 3) rfl)) (by decide) (by decide)) q163a q163c (g := (mkF m 419 #[.val (.int p0), .val (.int p1), .val (.int p2), .val (.ref b7), .val (.ref b45), .val (.ref b85), .val (.int i143), .val (.int i144), .val (.int i148), .val (.int i148), .val (.int (1 : Int32))] [(.int i148), (.ref ai)])) rfl (by rw [hml]; rfl) (Steps.refl _) (argsL := [(.int i148)]) (rest := []) (lenOf pd_0 rfl) rfl (by show 2 * 0 + _ ≤ _; exact Nat.le_of_eq rfl) (hb hby at_419) (fun _ _ => ⟨rfl, e140, (by decide : 3 + 0 ≤ _), (by decide : 51 + 0 ≤ _)⟩)
        dsimp only [Pt.U, Pt.locs, Pt.cells, Pt.slots] at X163 l163 y163 z163 st163 hQ163
        rw [l163, y163, z163] at X163
        unfold Q1 at hQ163
        have k164 : ∀ t, Steps p.tables e below (T140.setTop (mkF m 419 #[.val (.int p0), .val (.int p1), .val (.int p2), .val (.ref b7), .val (.ref b45), .val (.ref b85), .val (.int i143), .val (.int i144), .val (.int i148), .val (.int i148), .val (.int (1 : Int32))] [(.int i148), (.ref ai)])) t → Steps p.tables e below (s₁.setTop (entryFrame m #[(.int p0), (.int p1), (.int p2)] maxLocals)) t := fun t kt => k157 t (by
          show Steps p.tables e below (T140.setTop (mkF m 403 #[.val (.int p0), .val (.int p1), .val (.int p2), .val (.ref b7), .val (.ref b45), .val (.ref b85), .val (.int i143), .val (.int i144), .val (.int i148), .val (.int i148), .unset] [(.int hi), (.int i148)])) _
          refine XS.icmpNo X140.here hx rfl (hb hby at_403) rfl (flt (hc158 : ¬ (hi < i148))).2.2.1 ?_
          show Steps p.tables e below (T140.setTop (mkF m 406 #[.val (.int p0), .val (.int p1), .val (.int p2), .val (.ref b7), .val (.ref b45), .val (.ref b85), .val (.int i143), .val (.int i144), .val (.int i148), .val (.int i148), .unset] [])) _
          refine XS.iconst X140.here hx rfl (hb hby at_406) ?_
          show Steps p.tables e below (T140.setTop (mkF m 407 #[.val (.int p0), .val (.int p1), .val (.int p2), .val (.ref b7), .val (.ref b45), .val (.ref b85), .val (.int i143), .val (.int i144), .val (.int i148), .val (.int i148), .unset] [(.int (1 : Int32))])) _
          refine XS.goto X140.here hx rfl (pc0 := 407) (pc' := 411) rfl (hb hby at_407) (by decide) (by decide) ?_
          show Steps p.tables e below (T140.setTop (mkF m 411 #[.val (.int p0), .val (.int p1), .val (.int p2), .val (.ref b7), .val (.ref b45), .val (.ref b85), .val (.int i143), .val (.int i144), .val (.int i148), .val (.int i148), .unset] [(.int (1 : Int32))])) _
          refine XS.istore X140.here hx rfl (hb hby at_411) rfl (l' := #[.val (.int p0), .val (.int p1), .val (.int p2), .val (.ref b7), .val (.ref b45), .val (.ref b85), .val (.int i143), .val (.int i144), .val (.int i148), .val (.int i148), .val (.int (1 : Int32))]) rfl ?_
          show Steps p.tables e below (T140.setTop (mkF m 413 #[.val (.int p0), .val (.int p1), .val (.int p2), .val (.ref b7), .val (.ref b45), .val (.ref b85), .val (.int i143), .val (.int i144), .val (.int i148), .val (.int i148), .val (.int (1 : Int32))] [])) _
          refine XS.aloadN X140.here hx rfl (hb hby at_413) rfl rfl ?_
          show Steps p.tables e below (T140.setTop (mkF m 414 #[.val (.int p0), .val (.int p1), .val (.int p2), .val (.ref b7), .val (.ref b45), .val (.ref b85), .val (.int i143), .val (.int i144), .val (.int i148), .val (.int i148), .val (.int (1 : Int32))] [(.ref b7)])) _
          refine XS.iload X140.here hx rfl (hb hby at_414) rfl ?_
          show Steps p.tables e below (T140.setTop (mkF m 416 #[.val (.int p0), .val (.int p1), .val (.int p2), .val (.ref b7), .val (.ref b45), .val (.ref b85), .val (.int i143), .val (.int i144), .val (.int i148), .val (.int i148), .val (.int (1 : Int32))] [(.int i143), (.ref b7)])) _
          refine X140.aaload hx (j := i143) (v := (.ref ai)) (by rw [e140]; exact Ara162.1) (State.isArrayOf_alike hZ.alike Ara162.2.1) rfl Ara162.2.2 hina162 (Ha162.at hina162 ra) (g := (mkF m 416 #[.val (.int p0), .val (.int p1), .val (.int p2), .val (.ref b7), .val (.ref b45), .val (.ref b85), .val (.int i143), .val (.int i144), .val (.int i148), .val (.int i148), .val (.int (1 : Int32))] [(.int i143), (.ref b7)])) rfl rfl (hb hby at_416) _ ?_
          show Steps p.tables e below (T140.setTop (mkF m 417 #[.val (.int p0), .val (.int p1), .val (.int p2), .val (.ref b7), .val (.ref b45), .val (.ref b85), .val (.int i143), .val (.int i144), .val (.int i148), .val (.int i148), .val (.int (1 : Int32))] [(.ref ai)])) _
          refine XS.iload X140.here hx rfl (hb hby at_417) rfl ?_
          exact kt)
        rw [((by rw [f1, if_neg (hc152 : ¬ (i148 < lo)), if_neg (hc158 : ¬ (hi < i148))]) : (f1 ai i148 lo hi) = (1 : Int32))] at hQ163
        obtain ⟨rfl, N163q, e163⟩ := hQ163
        have N163 := Fr.app N140' N163q
        obtain ⟨fs, hr, hrun, hended, hW, hsame⟩ := X163.leave (v := some (.int (1 : Int32))) (fun h => by rw [Bd.returns] at h; cases h)
        refine ⟨_, _, k164 _ ?_, hrun, hended, _, _, rfl, ?_, ⟨_, rfl⟩, hW, hsame.mono (by decide) (by decide)⟩
        · show Steps p.tables e below (T140.setTop (mkF m 419 #[.val (.int p0), .val (.int p1), .val (.int p2), .val (.ref b7), .val (.ref b45), .val (.ref b85), .val (.int i143), .val (.int i144), .val (.int i148), .val (.int i148), .val (.int (1 : Int32))] [(.int i148), (.ref ai)])) _
          refine st163.trans ?_
          show Steps p.tables e below (T163.setTop (mkF m 422 #[.val (.int p0), .val (.int p1), .val (.int p2), .val (.ref b7), .val (.ref b45), .val (.ref b85), .val (.int i143), .val (.int i144), .val (.int i148), .val (.int i148), .val (.int (1 : Int32))] [(.int (1 : Int32))])) _
          refine XS.iload X163.here hx rfl (hb hby at_422) rfl ?_
          show Steps p.tables e below (T163.setTop (mkF m 424 #[.val (.int p0), .val (.int p1), .val (.int p2), .val (.ref b7), .val (.ref b45), .val (.ref b85), .val (.int i143), .val (.int i144), .val (.int i148), .val (.int i148), .val (.int (1 : Int32))] [(.int (1 : Int32)), (.int (1 : Int32))])) _
          refine XS.icmpNo X163.here hx rfl (hb hby at_424) rfl (teq (rfl : (1 : Int32) = (1 : Int32))).2 ?_
          show Steps p.tables e below (T163.setTop (mkF m 427 #[.val (.int p0), .val (.int p1), .val (.int p2), .val (.ref b7), .val (.ref b45), .val (.ref b85), .val (.int i143), .val (.int i144), .val (.int i148), .val (.int i148), .val (.int (1 : Int32))] [])) _
          refine XS.iconst X163.here hx rfl (hb hby at_427) ?_
          show Steps p.tables e below (T163.setTop (mkF m 428 #[.val (.int p0), .val (.int p1), .val (.int p2), .val (.ref b7), .val (.ref b45), .val (.ref b85), .val (.int i143), .val (.int i144), .val (.int i148), .val (.int i148), .val (.int (1 : Int32))] [(.int (1 : Int32))])) _
          refine XS.goto X163.here hx rfl (pc0 := 428) (pc' := 432) rfl (hb hby at_428) (by decide) (by decide) ?_
          show Steps p.tables e below (T163.setTop (mkF m 432 #[.val (.int p0), .val (.int p1), .val (.int p2), .val (.ref b7), .val (.ref b45), .val (.ref b85), .val (.int i143), .val (.int i144), .val (.int i148), .val (.int i148), .val (.int (1 : Int32))] [(.int (1 : Int32))])) _
          exact retN X163 hx (t := .boolean) Bd.returns (by simp) (hb hby at_432) hr
        · show Q0 Z p0 p1 p2 wPRODUCE wFETCH wLIST_OFFSETS wMETADATA wOFFSET_COMMIT wOFFSET_FETCH wFIND_COORDINATOR wJOIN_GROUP wHEARTBEAT wLEAVE_GROUP wSYNC_GROUP wAPI_VERSIONS wINIT_PRODUCER_ID wADD_PARTITIONS_TO_TXN wADD_OFFSETS_TO_TXN wEND_TXN wTXN_OFFSET_COMMIT h0 n0 _ T163.heap _
          rw [e163]
          exact ⟨rfl, N163⟩
  · have k165 : ∀ t, Steps p.tables e below (T140.setTop (mkF m 330 #[.val (.int p0), .val (.int p1), .val (.int p2), .val (.ref b7), .val (.ref b45), .val (.ref b85), .val (.int i143), .val (.int i144), .unset, .unset, .unset] [(.int (1 : Int32)), (.int i144)])) t → Steps p.tables e below (s₁.setTop (entryFrame m #[(.int p0), (.int p1), (.int p2)] maxLocals)) t := fun t kt => k145 t (by
      show Steps p.tables e below (T140.setTop (mkF m 312 #[.val (.int p0), .val (.int p1), .val (.int p2), .val (.ref b7), .val (.ref b45), .val (.ref b85), .val (.int i143), .val (.int i144), .unset, .unset, .unset] [(.int i144)])) _
      refine XS.ifYes X140.here hx rfl (pc0 := 312) (pc' := 327) rfl (hb hby at_312) rfl ((if0 _ _).trans (feq (hc146 : ¬ (i144 = (0 : Int32)))).2) (by decide) (by decide) ?_
      show Steps p.tables e below (T140.setTop (mkF m 327 #[.val (.int p0), .val (.int p1), .val (.int p2), .val (.ref b7), .val (.ref b45), .val (.ref b85), .val (.int i143), .val (.int i144), .unset, .unset, .unset] [])) _
      refine XS.iload X140.here hx rfl (hb hby at_327) rfl ?_
      show Steps p.tables e below (T140.setTop (mkF m 329 #[.val (.int p0), .val (.int p1), .val (.int p2), .val (.ref b7), .val (.ref b45), .val (.ref b85), .val (.int i143), .val (.int i144), .unset, .unset, .unset] [(.int i144)])) _
      refine XS.iconst X140.here hx rfl (hb hby at_329) ?_
      exact kt)
    by_cases hc166 : i144 = (1 : Int32)
    · obtain ⟨cla167, Ara167, qa167, Sa167, Na167, Ha167, Ga167⟩ := And.left ⟨V142, trivial⟩
      have hina167 : ¬ (i143 < 0 ∨ cla167.slots.size ≤ (i143).toNatClampNeg) := inb_of Sa167 ⟨ig, il⟩
      have hl168 : (lo.toInt16.toInt32) = lo := q2
      obtain ⟨cla169, Ara169, qa169, Sa169, Na169, Ha169, Ga169⟩ := And.left ⟨V142, trivial⟩
      have hina169 : ¬ (i143 < 0 ∨ cla169.slots.size ≤ (i143).toNatClampNeg) := inb_of Sa169 ⟨ig, il⟩
      obtain ⟨cla170, Ara170, qa170, Sa170, Na170, Ha170, Ga170⟩ := And.left ⟨V140, trivial⟩
      have hina170 : ¬ (i143 < 0 ∨ cla170.slots.size ≤ (i143).toNatClampNeg) := inb_of Sa170 ⟨ig, il⟩
      have k171 : ∀ t, Steps p.tables e below (T140.setTop (mkF m 403 #[.val (.int p0), .val (.int p1), .val (.int p2), .val (.ref b7), .val (.ref b45), .val (.ref b85), .val (.int i143), .val (.int i144), .val (.int lo), .val (.int lo), .unset] [(.int hi), (.int lo)])) t → Steps p.tables e below (s₁.setTop (entryFrame m #[(.int p0), (.int p1), (.int p2)] maxLocals)) t := fun t kt => k165 t (by
        show Steps p.tables e below (T140.setTop (mkF m 330 #[.val (.int p0), .val (.int p1), .val (.int p2), .val (.ref b7), .val (.ref b45), .val (.ref b85), .val (.int i143), .val (.int i144), .unset, .unset, .unset] [(.int (1 : Int32)), (.int i144)])) _
        refine XS.icmpNo X140.here hx rfl (hb hby at_330) rfl (teq (hc166 : i144 = (1 : Int32))).2 ?_
        show Steps p.tables e below (T140.setTop (mkF m 333 #[.val (.int p0), .val (.int p1), .val (.int p2), .val (.ref b7), .val (.ref b45), .val (.ref b85), .val (.int i143), .val (.int i144), .unset, .unset, .unset] [])) _
        refine XS.aload X140.here hx rfl (hb hby at_333) rfl rfl ?_
        show Steps p.tables e below (T140.setTop (mkF m 335 #[.val (.int p0), .val (.int p1), .val (.int p2), .val (.ref b7), .val (.ref b45), .val (.ref b85), .val (.int i143), .val (.int i144), .unset, .unset, .unset] [(.ref b45)])) _
        refine XS.iload X140.here hx rfl (hb hby at_335) rfl ?_
        show Steps p.tables e below (T140.setTop (mkF m 337 #[.val (.int p0), .val (.int p1), .val (.int p2), .val (.ref b7), .val (.ref b45), .val (.ref b85), .val (.int i143), .val (.int i144), .unset, .unset, .unset] [(.int i143), (.ref b45)])) _
        refine X140.iaload hx (j := i143) (v := (.int lo)) (by rw [e140]; exact Ara167.1) (State.isArrayOf_alike hZ.alike Ara167.2.1) Ara167.2.2 hina167 (Ha167.at hina167 rl) (g := (mkF m 337 #[.val (.int p0), .val (.int p1), .val (.int p2), .val (.ref b7), .val (.ref b45), .val (.ref b85), .val (.int i143), .val (.int i144), .unset, .unset, .unset] [(.int i143), (.ref b45)])) rfl rfl (hb hby at_337) _ ?_
        show Steps p.tables e below (T140.setTop (mkF m 338 #[.val (.int p0), .val (.int p1), .val (.int p2), .val (.ref b7), .val (.ref b45), .val (.ref b85), .val (.int i143), .val (.int i144), .unset, .unset, .unset] [(.int lo)])) _
        refine XS.istore X140.here hx rfl (hb hby at_338) rfl (l' := #[.val (.int p0), .val (.int p1), .val (.int p2), .val (.ref b7), .val (.ref b45), .val (.ref b85), .val (.int i143), .val (.int i144), .val (.int lo), .unset, .unset]) rfl ?_
        show Steps p.tables e below (T140.setTop (mkF m 340 #[.val (.int p0), .val (.int p1), .val (.int p2), .val (.ref b7), .val (.ref b45), .val (.ref b85), .val (.int i143), .val (.int i144), .val (.int lo), .unset, .unset] [])) _
        refine XS.goto X140.here hx rfl (pc0 := 340) (pc' := 381) rfl (hb hby at_340) (by decide) (by decide) ?_
        show Steps p.tables e below (T140.setTop (mkF m 381 #[.val (.int p0), .val (.int p1), .val (.int p2), .val (.ref b7), .val (.ref b45), .val (.ref b85), .val (.int i143), .val (.int i144), .val (.int lo), .unset, .unset] [])) _
        refine XS.iload X140.here hx rfl (hb hby at_381) rfl ?_
        show Steps p.tables e below (T140.setTop (mkF m 383 #[.val (.int p0), .val (.int p1), .val (.int p2), .val (.ref b7), .val (.ref b45), .val (.ref b85), .val (.int i143), .val (.int i144), .val (.int lo), .unset, .unset] [(.int lo)])) _
        refine XS.i2s X140.here hx rfl (hb hby at_383) rfl ?_
        rw [hl168]
        show Steps p.tables e below (T140.setTop (mkF m 384 #[.val (.int p0), .val (.int p1), .val (.int p2), .val (.ref b7), .val (.ref b45), .val (.ref b85), .val (.int i143), .val (.int i144), .val (.int lo), .unset, .unset] [(.int lo)])) _
        refine XS.istore X140.here hx rfl (hb hby at_384) rfl (l' := #[.val (.int p0), .val (.int p1), .val (.int p2), .val (.ref b7), .val (.ref b45), .val (.ref b85), .val (.int i143), .val (.int i144), .val (.int lo), .val (.int lo), .unset]) rfl ?_
        show Steps p.tables e below (T140.setTop (mkF m 386 #[.val (.int p0), .val (.int p1), .val (.int p2), .val (.ref b7), .val (.ref b45), .val (.ref b85), .val (.int i143), .val (.int i144), .val (.int lo), .val (.int lo), .unset] [])) _
        refine XS.iload X140.here hx rfl (hb hby at_386) rfl ?_
        show Steps p.tables e below (T140.setTop (mkF m 388 #[.val (.int p0), .val (.int p1), .val (.int p2), .val (.ref b7), .val (.ref b45), .val (.ref b85), .val (.int i143), .val (.int i144), .val (.int lo), .val (.int lo), .unset] [(.int lo)])) _
        refine XS.aload X140.here hx rfl (hb hby at_388) rfl rfl ?_
        show Steps p.tables e below (T140.setTop (mkF m 390 #[.val (.int p0), .val (.int p1), .val (.int p2), .val (.ref b7), .val (.ref b45), .val (.ref b85), .val (.int i143), .val (.int i144), .val (.int lo), .val (.int lo), .unset] [(.ref b45), (.int lo)])) _
        refine XS.iload X140.here hx rfl (hb hby at_390) rfl ?_
        show Steps p.tables e below (T140.setTop (mkF m 392 #[.val (.int p0), .val (.int p1), .val (.int p2), .val (.ref b7), .val (.ref b45), .val (.ref b85), .val (.int i143), .val (.int i144), .val (.int lo), .val (.int lo), .unset] [(.int i143), (.ref b45), (.int lo)])) _
        refine X140.iaload hx (j := i143) (v := (.int lo)) (by rw [e140]; exact Ara169.1) (State.isArrayOf_alike hZ.alike Ara169.2.1) Ara169.2.2 hina169 (Ha169.at hina169 rl) (g := (mkF m 392 #[.val (.int p0), .val (.int p1), .val (.int p2), .val (.ref b7), .val (.ref b45), .val (.ref b85), .val (.int i143), .val (.int i144), .val (.int lo), .val (.int lo), .unset] [(.int i143), (.ref b45), (.int lo)])) rfl rfl (hb hby at_392) _ ?_
        show Steps p.tables e below (T140.setTop (mkF m 393 #[.val (.int p0), .val (.int p1), .val (.int p2), .val (.ref b7), .val (.ref b45), .val (.ref b85), .val (.int i143), .val (.int i144), .val (.int lo), .val (.int lo), .unset] [(.int lo), (.int lo)])) _
        refine XS.icmpNo X140.here hx rfl (hb hby at_393) rfl (flt ((by first | exact own_irr | decide) : ¬ (lo < lo))).1 ?_
        show Steps p.tables e below (T140.setTop (mkF m 396 #[.val (.int p0), .val (.int p1), .val (.int p2), .val (.ref b7), .val (.ref b45), .val (.ref b85), .val (.int i143), .val (.int i144), .val (.int lo), .val (.int lo), .unset] [])) _
        refine XS.iload X140.here hx rfl (hb hby at_396) rfl ?_
        show Steps p.tables e below (T140.setTop (mkF m 398 #[.val (.int p0), .val (.int p1), .val (.int p2), .val (.ref b7), .val (.ref b45), .val (.ref b85), .val (.int i143), .val (.int i144), .val (.int lo), .val (.int lo), .unset] [(.int lo)])) _
        refine XS.aload X140.here hx rfl (hb hby at_398) rfl rfl ?_
        show Steps p.tables e below (T140.setTop (mkF m 400 #[.val (.int p0), .val (.int p1), .val (.int p2), .val (.ref b7), .val (.ref b45), .val (.ref b85), .val (.int i143), .val (.int i144), .val (.int lo), .val (.int lo), .unset] [(.ref b85), (.int lo)])) _
        refine XS.iload X140.here hx rfl (hb hby at_400) rfl ?_
        show Steps p.tables e below (T140.setTop (mkF m 402 #[.val (.int p0), .val (.int p1), .val (.int p2), .val (.ref b7), .val (.ref b45), .val (.ref b85), .val (.int i143), .val (.int i144), .val (.int lo), .val (.int lo), .unset] [(.int i143), (.ref b85), (.int lo)])) _
        refine X140.iaload hx (j := i143) (v := (.int hi)) (by rw [e140]; exact Ara170.1) (State.isArrayOf_alike hZ.alike Ara170.2.1) Ara170.2.2 hina170 (Ha170.at hina170 rh) (g := (mkF m 402 #[.val (.int p0), .val (.int p1), .val (.int p2), .val (.ref b7), .val (.ref b45), .val (.ref b85), .val (.int i143), .val (.int i144), .val (.int lo), .val (.int lo), .unset] [(.int i143), (.ref b85), (.int lo)])) rfl rfl (hb hby at_402) _ ?_
        exact kt)
      by_cases hc172 : hi < lo
      · obtain ⟨cla173, Ara173, qa173, Sa173, Na173, Ha173, Ga173⟩ := And.left ⟨V141, trivial⟩
        have hina173 : ¬ (i143 < 0 ∨ cla173.slots.size ≤ (i143).toNatClampNeg) := inb_of Sa173 ⟨ig, il⟩
        obtain ⟨cq174, kq174, q174a, q174b, q174c⟩ := isOf hZ e140 Ei
        obtain ⟨_, _, ⟨T174, L174, k174, n174⟩, -, X174, ⟨Lc174, hQ174, l174, y174, z174⟩, st174⟩ := X140.virtualBack hx (y := (⟨"com/example/idem_log/idemlog/protocol/Api", "serves", "(S)Z"⟩ : MethodName)) (z := (⟨"com/example/idem_log/idemlog/protocol/Api", "serves", "(S)Z"⟩ : MethodName)) hown (mvT hZ (hw _ (List.mem_of_getElem? (i := 40) rfl))) (mvT hZ (hw _ (List.mem_of_getElem? (i := 41) rfl))) (notFace_of_selects (args := #[]) (mvT hZ (hw _ (List.mem_of_getElem? (i := 43) rfl)))) (mvT hZ (hw _ (List.mem_of_getElem? (i := 43) rfl))) (mvT hZ (hw _ (List.mem_of_getElem? (i := 42) rfl))) (by decide) (backOf (W := 0) (rm1 l Z a0 hw [] ai lo lo hi h140 n0 (Nat.le_trans Z0 EX140.1) Fmin Fmax) hZ (hw _ (List.mem_of_getElem? (i := 44) rfl)) (hw _ (List.mem_of_getElem? (i := 3) rfl)) (by decide) (by decide)) q174a q174c (g := (mkF m 419 #[.val (.int p0), .val (.int p1), .val (.int p2), .val (.ref b7), .val (.ref b45), .val (.ref b85), .val (.int i143), .val (.int i144), .val (.int lo), .val (.int lo), .val (.int (0 : Int32))] [(.int lo), (.ref ai)])) rfl (by rw [hml]; rfl) (Steps.refl _) (argsL := [(.int lo)]) (rest := []) (lenOf pd_0 rfl) rfl (by show 2 * 0 + _ ≤ _; exact Nat.le_of_eq rfl) (hb hby at_419) (fun _ _ => ⟨rfl, e140, (by decide : 3 + 0 ≤ _), (by decide : 51 + 0 ≤ _)⟩)
        dsimp only [Pt.U, Pt.locs, Pt.cells, Pt.slots] at X174 l174 y174 z174 st174 hQ174
        rw [l174, y174, z174] at X174
        unfold Q1 at hQ174
        have k175 : ∀ t, Steps p.tables e below (T140.setTop (mkF m 419 #[.val (.int p0), .val (.int p1), .val (.int p2), .val (.ref b7), .val (.ref b45), .val (.ref b85), .val (.int i143), .val (.int i144), .val (.int lo), .val (.int lo), .val (.int (0 : Int32))] [(.int lo), (.ref ai)])) t → Steps p.tables e below (s₁.setTop (entryFrame m #[(.int p0), (.int p1), (.int p2)] maxLocals)) t := fun t kt => k171 t (by
          show Steps p.tables e below (T140.setTop (mkF m 403 #[.val (.int p0), .val (.int p1), .val (.int p2), .val (.ref b7), .val (.ref b45), .val (.ref b85), .val (.int i143), .val (.int i144), .val (.int lo), .val (.int lo), .unset] [(.int hi), (.int lo)])) _
          refine XS.icmpYes X140.here hx rfl (pc0 := 403) (pc' := 410) rfl (hb hby at_403) rfl (tlt (hc172 : hi < lo)).2.2.1 (by decide) (by decide) ?_
          show Steps p.tables e below (T140.setTop (mkF m 410 #[.val (.int p0), .val (.int p1), .val (.int p2), .val (.ref b7), .val (.ref b45), .val (.ref b85), .val (.int i143), .val (.int i144), .val (.int lo), .val (.int lo), .unset] [])) _
          refine XS.iconst X140.here hx rfl (hb hby at_410) ?_
          show Steps p.tables e below (T140.setTop (mkF m 411 #[.val (.int p0), .val (.int p1), .val (.int p2), .val (.ref b7), .val (.ref b45), .val (.ref b85), .val (.int i143), .val (.int i144), .val (.int lo), .val (.int lo), .unset] [(.int (0 : Int32))])) _
          refine XS.istore X140.here hx rfl (hb hby at_411) rfl (l' := #[.val (.int p0), .val (.int p1), .val (.int p2), .val (.ref b7), .val (.ref b45), .val (.ref b85), .val (.int i143), .val (.int i144), .val (.int lo), .val (.int lo), .val (.int (0 : Int32))]) rfl ?_
          show Steps p.tables e below (T140.setTop (mkF m 413 #[.val (.int p0), .val (.int p1), .val (.int p2), .val (.ref b7), .val (.ref b45), .val (.ref b85), .val (.int i143), .val (.int i144), .val (.int lo), .val (.int lo), .val (.int (0 : Int32))] [])) _
          refine XS.aloadN X140.here hx rfl (hb hby at_413) rfl rfl ?_
          show Steps p.tables e below (T140.setTop (mkF m 414 #[.val (.int p0), .val (.int p1), .val (.int p2), .val (.ref b7), .val (.ref b45), .val (.ref b85), .val (.int i143), .val (.int i144), .val (.int lo), .val (.int lo), .val (.int (0 : Int32))] [(.ref b7)])) _
          refine XS.iload X140.here hx rfl (hb hby at_414) rfl ?_
          show Steps p.tables e below (T140.setTop (mkF m 416 #[.val (.int p0), .val (.int p1), .val (.int p2), .val (.ref b7), .val (.ref b45), .val (.ref b85), .val (.int i143), .val (.int i144), .val (.int lo), .val (.int lo), .val (.int (0 : Int32))] [(.int i143), (.ref b7)])) _
          refine X140.aaload hx (j := i143) (v := (.ref ai)) (by rw [e140]; exact Ara173.1) (State.isArrayOf_alike hZ.alike Ara173.2.1) rfl Ara173.2.2 hina173 (Ha173.at hina173 ra) (g := (mkF m 416 #[.val (.int p0), .val (.int p1), .val (.int p2), .val (.ref b7), .val (.ref b45), .val (.ref b85), .val (.int i143), .val (.int i144), .val (.int lo), .val (.int lo), .val (.int (0 : Int32))] [(.int i143), (.ref b7)])) rfl rfl (hb hby at_416) _ ?_
          show Steps p.tables e below (T140.setTop (mkF m 417 #[.val (.int p0), .val (.int p1), .val (.int p2), .val (.ref b7), .val (.ref b45), .val (.ref b85), .val (.int i143), .val (.int i144), .val (.int lo), .val (.int lo), .val (.int (0 : Int32))] [(.ref ai)])) _
          refine XS.iload X140.here hx rfl (hb hby at_417) rfl ?_
          exact kt)
        rw [((by rw [f1, if_neg ((by first | exact own_irr | decide) : ¬ (lo < lo)), if_pos (hc172 : hi < lo)]) : (f1 ai lo lo hi) = (0 : Int32))] at hQ174
        obtain ⟨rfl, N174q, e174⟩ := hQ174
        have N174 := Fr.app N140' N174q
        obtain ⟨fs, hr, hrun, hended, hW, hsame⟩ := X174.leave (v := some (.int (1 : Int32))) (fun h => by rw [Bd.returns] at h; cases h)
        refine ⟨_, _, k175 _ ?_, hrun, hended, _, _, rfl, ?_, ⟨_, rfl⟩, hW, hsame.mono (by decide) (by decide)⟩
        · show Steps p.tables e below (T140.setTop (mkF m 419 #[.val (.int p0), .val (.int p1), .val (.int p2), .val (.ref b7), .val (.ref b45), .val (.ref b85), .val (.int i143), .val (.int i144), .val (.int lo), .val (.int lo), .val (.int (0 : Int32))] [(.int lo), (.ref ai)])) _
          refine st174.trans ?_
          show Steps p.tables e below (T174.setTop (mkF m 422 #[.val (.int p0), .val (.int p1), .val (.int p2), .val (.ref b7), .val (.ref b45), .val (.ref b85), .val (.int i143), .val (.int i144), .val (.int lo), .val (.int lo), .val (.int (0 : Int32))] [(.int (0 : Int32))])) _
          refine XS.iload X174.here hx rfl (hb hby at_422) rfl ?_
          show Steps p.tables e below (T174.setTop (mkF m 424 #[.val (.int p0), .val (.int p1), .val (.int p2), .val (.ref b7), .val (.ref b45), .val (.ref b85), .val (.int i143), .val (.int i144), .val (.int lo), .val (.int lo), .val (.int (0 : Int32))] [(.int (0 : Int32)), (.int (0 : Int32))])) _
          refine XS.icmpNo X174.here hx rfl (hb hby at_424) rfl (teq (rfl : (0 : Int32) = (0 : Int32))).2 ?_
          show Steps p.tables e below (T174.setTop (mkF m 427 #[.val (.int p0), .val (.int p1), .val (.int p2), .val (.ref b7), .val (.ref b45), .val (.ref b85), .val (.int i143), .val (.int i144), .val (.int lo), .val (.int lo), .val (.int (0 : Int32))] [])) _
          refine XS.iconst X174.here hx rfl (hb hby at_427) ?_
          show Steps p.tables e below (T174.setTop (mkF m 428 #[.val (.int p0), .val (.int p1), .val (.int p2), .val (.ref b7), .val (.ref b45), .val (.ref b85), .val (.int i143), .val (.int i144), .val (.int lo), .val (.int lo), .val (.int (0 : Int32))] [(.int (1 : Int32))])) _
          refine XS.goto X174.here hx rfl (pc0 := 428) (pc' := 432) rfl (hb hby at_428) (by decide) (by decide) ?_
          show Steps p.tables e below (T174.setTop (mkF m 432 #[.val (.int p0), .val (.int p1), .val (.int p2), .val (.ref b7), .val (.ref b45), .val (.ref b85), .val (.int i143), .val (.int i144), .val (.int lo), .val (.int lo), .val (.int (0 : Int32))] [(.int (1 : Int32))])) _
          exact retN X174 hx (t := .boolean) Bd.returns (by simp) (hb hby at_432) hr
        · show Q0 Z p0 p1 p2 wPRODUCE wFETCH wLIST_OFFSETS wMETADATA wOFFSET_COMMIT wOFFSET_FETCH wFIND_COORDINATOR wJOIN_GROUP wHEARTBEAT wLEAVE_GROUP wSYNC_GROUP wAPI_VERSIONS wINIT_PRODUCER_ID wADD_PARTITIONS_TO_TXN wADD_OFFSETS_TO_TXN wEND_TXN wTXN_OFFSET_COMMIT h0 n0 _ T174.heap _
          rw [e174]
          exact ⟨rfl, N174⟩
      · obtain ⟨cla176, Ara176, qa176, Sa176, Na176, Ha176, Ga176⟩ := And.left ⟨V141, trivial⟩
        have hina176 : ¬ (i143 < 0 ∨ cla176.slots.size ≤ (i143).toNatClampNeg) := inb_of Sa176 ⟨ig, il⟩
        obtain ⟨cq177, kq177, q177a, q177b, q177c⟩ := isOf hZ e140 Ei
        obtain ⟨_, _, ⟨T177, L177, k177, n177⟩, -, X177, ⟨Lc177, hQ177, l177, y177, z177⟩, st177⟩ := X140.virtualBack hx (y := (⟨"com/example/idem_log/idemlog/protocol/Api", "serves", "(S)Z"⟩ : MethodName)) (z := (⟨"com/example/idem_log/idemlog/protocol/Api", "serves", "(S)Z"⟩ : MethodName)) hown (mvT hZ (hw _ (List.mem_of_getElem? (i := 40) rfl))) (mvT hZ (hw _ (List.mem_of_getElem? (i := 41) rfl))) (notFace_of_selects (args := #[]) (mvT hZ (hw _ (List.mem_of_getElem? (i := 43) rfl)))) (mvT hZ (hw _ (List.mem_of_getElem? (i := 43) rfl))) (mvT hZ (hw _ (List.mem_of_getElem? (i := 42) rfl))) (by decide) (backOf (W := 0) (rm1 l Z a0 hw [] ai lo lo hi h140 n0 (Nat.le_trans Z0 EX140.1) Fmin Fmax) hZ (hw _ (List.mem_of_getElem? (i := 44) rfl)) (hw _ (List.mem_of_getElem? (i := 3) rfl)) (by decide) (by decide)) q177a q177c (g := (mkF m 419 #[.val (.int p0), .val (.int p1), .val (.int p2), .val (.ref b7), .val (.ref b45), .val (.ref b85), .val (.int i143), .val (.int i144), .val (.int lo), .val (.int lo), .val (.int (1 : Int32))] [(.int lo), (.ref ai)])) rfl (by rw [hml]; rfl) (Steps.refl _) (argsL := [(.int lo)]) (rest := []) (lenOf pd_0 rfl) rfl (by show 2 * 0 + _ ≤ _; exact Nat.le_of_eq rfl) (hb hby at_419) (fun _ _ => ⟨rfl, e140, (by decide : 3 + 0 ≤ _), (by decide : 51 + 0 ≤ _)⟩)
        dsimp only [Pt.U, Pt.locs, Pt.cells, Pt.slots] at X177 l177 y177 z177 st177 hQ177
        rw [l177, y177, z177] at X177
        unfold Q1 at hQ177
        have k178 : ∀ t, Steps p.tables e below (T140.setTop (mkF m 419 #[.val (.int p0), .val (.int p1), .val (.int p2), .val (.ref b7), .val (.ref b45), .val (.ref b85), .val (.int i143), .val (.int i144), .val (.int lo), .val (.int lo), .val (.int (1 : Int32))] [(.int lo), (.ref ai)])) t → Steps p.tables e below (s₁.setTop (entryFrame m #[(.int p0), (.int p1), (.int p2)] maxLocals)) t := fun t kt => k171 t (by
          show Steps p.tables e below (T140.setTop (mkF m 403 #[.val (.int p0), .val (.int p1), .val (.int p2), .val (.ref b7), .val (.ref b45), .val (.ref b85), .val (.int i143), .val (.int i144), .val (.int lo), .val (.int lo), .unset] [(.int hi), (.int lo)])) _
          refine XS.icmpNo X140.here hx rfl (hb hby at_403) rfl (flt (hc172 : ¬ (hi < lo))).2.2.1 ?_
          show Steps p.tables e below (T140.setTop (mkF m 406 #[.val (.int p0), .val (.int p1), .val (.int p2), .val (.ref b7), .val (.ref b45), .val (.ref b85), .val (.int i143), .val (.int i144), .val (.int lo), .val (.int lo), .unset] [])) _
          refine XS.iconst X140.here hx rfl (hb hby at_406) ?_
          show Steps p.tables e below (T140.setTop (mkF m 407 #[.val (.int p0), .val (.int p1), .val (.int p2), .val (.ref b7), .val (.ref b45), .val (.ref b85), .val (.int i143), .val (.int i144), .val (.int lo), .val (.int lo), .unset] [(.int (1 : Int32))])) _
          refine XS.goto X140.here hx rfl (pc0 := 407) (pc' := 411) rfl (hb hby at_407) (by decide) (by decide) ?_
          show Steps p.tables e below (T140.setTop (mkF m 411 #[.val (.int p0), .val (.int p1), .val (.int p2), .val (.ref b7), .val (.ref b45), .val (.ref b85), .val (.int i143), .val (.int i144), .val (.int lo), .val (.int lo), .unset] [(.int (1 : Int32))])) _
          refine XS.istore X140.here hx rfl (hb hby at_411) rfl (l' := #[.val (.int p0), .val (.int p1), .val (.int p2), .val (.ref b7), .val (.ref b45), .val (.ref b85), .val (.int i143), .val (.int i144), .val (.int lo), .val (.int lo), .val (.int (1 : Int32))]) rfl ?_
          show Steps p.tables e below (T140.setTop (mkF m 413 #[.val (.int p0), .val (.int p1), .val (.int p2), .val (.ref b7), .val (.ref b45), .val (.ref b85), .val (.int i143), .val (.int i144), .val (.int lo), .val (.int lo), .val (.int (1 : Int32))] [])) _
          refine XS.aloadN X140.here hx rfl (hb hby at_413) rfl rfl ?_
          show Steps p.tables e below (T140.setTop (mkF m 414 #[.val (.int p0), .val (.int p1), .val (.int p2), .val (.ref b7), .val (.ref b45), .val (.ref b85), .val (.int i143), .val (.int i144), .val (.int lo), .val (.int lo), .val (.int (1 : Int32))] [(.ref b7)])) _
          refine XS.iload X140.here hx rfl (hb hby at_414) rfl ?_
          show Steps p.tables e below (T140.setTop (mkF m 416 #[.val (.int p0), .val (.int p1), .val (.int p2), .val (.ref b7), .val (.ref b45), .val (.ref b85), .val (.int i143), .val (.int i144), .val (.int lo), .val (.int lo), .val (.int (1 : Int32))] [(.int i143), (.ref b7)])) _
          refine X140.aaload hx (j := i143) (v := (.ref ai)) (by rw [e140]; exact Ara176.1) (State.isArrayOf_alike hZ.alike Ara176.2.1) rfl Ara176.2.2 hina176 (Ha176.at hina176 ra) (g := (mkF m 416 #[.val (.int p0), .val (.int p1), .val (.int p2), .val (.ref b7), .val (.ref b45), .val (.ref b85), .val (.int i143), .val (.int i144), .val (.int lo), .val (.int lo), .val (.int (1 : Int32))] [(.int i143), (.ref b7)])) rfl rfl (hb hby at_416) _ ?_
          show Steps p.tables e below (T140.setTop (mkF m 417 #[.val (.int p0), .val (.int p1), .val (.int p2), .val (.ref b7), .val (.ref b45), .val (.ref b85), .val (.int i143), .val (.int i144), .val (.int lo), .val (.int lo), .val (.int (1 : Int32))] [(.ref ai)])) _
          refine XS.iload X140.here hx rfl (hb hby at_417) rfl ?_
          exact kt)
        rw [((by rw [f1, if_neg ((by first | exact own_irr | decide) : ¬ (lo < lo)), if_neg (hc172 : ¬ (hi < lo))]) : (f1 ai lo lo hi) = (1 : Int32))] at hQ177
        obtain ⟨rfl, N177q, e177⟩ := hQ177
        have N177 := Fr.app N140' N177q
        obtain ⟨fs, hr, hrun, hended, hW, hsame⟩ := X177.leave (v := some (.int (1 : Int32))) (fun h => by rw [Bd.returns] at h; cases h)
        refine ⟨_, _, k178 _ ?_, hrun, hended, _, _, rfl, ?_, ⟨_, rfl⟩, hW, hsame.mono (by decide) (by decide)⟩
        · show Steps p.tables e below (T140.setTop (mkF m 419 #[.val (.int p0), .val (.int p1), .val (.int p2), .val (.ref b7), .val (.ref b45), .val (.ref b85), .val (.int i143), .val (.int i144), .val (.int lo), .val (.int lo), .val (.int (1 : Int32))] [(.int lo), (.ref ai)])) _
          refine st177.trans ?_
          show Steps p.tables e below (T177.setTop (mkF m 422 #[.val (.int p0), .val (.int p1), .val (.int p2), .val (.ref b7), .val (.ref b45), .val (.ref b85), .val (.int i143), .val (.int i144), .val (.int lo), .val (.int lo), .val (.int (1 : Int32))] [(.int (1 : Int32))])) _
          refine XS.iload X177.here hx rfl (hb hby at_422) rfl ?_
          show Steps p.tables e below (T177.setTop (mkF m 424 #[.val (.int p0), .val (.int p1), .val (.int p2), .val (.ref b7), .val (.ref b45), .val (.ref b85), .val (.int i143), .val (.int i144), .val (.int lo), .val (.int lo), .val (.int (1 : Int32))] [(.int (1 : Int32)), (.int (1 : Int32))])) _
          refine XS.icmpNo X177.here hx rfl (hb hby at_424) rfl (teq (rfl : (1 : Int32) = (1 : Int32))).2 ?_
          show Steps p.tables e below (T177.setTop (mkF m 427 #[.val (.int p0), .val (.int p1), .val (.int p2), .val (.ref b7), .val (.ref b45), .val (.ref b85), .val (.int i143), .val (.int i144), .val (.int lo), .val (.int lo), .val (.int (1 : Int32))] [])) _
          refine XS.iconst X177.here hx rfl (hb hby at_427) ?_
          show Steps p.tables e below (T177.setTop (mkF m 428 #[.val (.int p0), .val (.int p1), .val (.int p2), .val (.ref b7), .val (.ref b45), .val (.ref b85), .val (.int i143), .val (.int i144), .val (.int lo), .val (.int lo), .val (.int (1 : Int32))] [(.int (1 : Int32))])) _
          refine XS.goto X177.here hx rfl (pc0 := 428) (pc' := 432) rfl (hb hby at_428) (by decide) (by decide) ?_
          show Steps p.tables e below (T177.setTop (mkF m 432 #[.val (.int p0), .val (.int p1), .val (.int p2), .val (.ref b7), .val (.ref b45), .val (.ref b85), .val (.int i143), .val (.int i144), .val (.int lo), .val (.int lo), .val (.int (1 : Int32))] [(.int (1 : Int32))])) _
          exact retN X177 hx (t := .boolean) Bd.returns (by simp) (hb hby at_432) hr
        · show Q0 Z p0 p1 p2 wPRODUCE wFETCH wLIST_OFFSETS wMETADATA wOFFSET_COMMIT wOFFSET_FETCH wFIND_COORDINATOR wJOIN_GROUP wHEARTBEAT wLEAVE_GROUP wSYNC_GROUP wAPI_VERSIONS wINIT_PRODUCER_ID wADD_PARTITIONS_TO_TXN wADD_OFFSETS_TO_TXN wEND_TXN wTXN_OFFSET_COMMIT h0 n0 _ T177.heap _
          rw [e177]
          exact ⟨rfl, N177⟩
    · have k179 : ∀ t, Steps p.tables e below (T140.setTop (mkF m 346 #[.val (.int p0), .val (.int p1), .val (.int p2), .val (.ref b7), .val (.ref b45), .val (.ref b85), .val (.int i143), .val (.int i144), .unset, .unset, .unset] [(.int (2 : Int32)), (.int i144)])) t → Steps p.tables e below (s₁.setTop (entryFrame m #[(.int p0), (.int p1), (.int p2)] maxLocals)) t := fun t kt => k165 t (by
        show Steps p.tables e below (T140.setTop (mkF m 330 #[.val (.int p0), .val (.int p1), .val (.int p2), .val (.ref b7), .val (.ref b45), .val (.ref b85), .val (.int i143), .val (.int i144), .unset, .unset, .unset] [(.int (1 : Int32)), (.int i144)])) _
        refine XS.icmpYes X140.here hx rfl (pc0 := 330) (pc' := 343) rfl (hb hby at_330) rfl (feq (hc166 : ¬ (i144 = (1 : Int32)))).2 (by decide) (by decide) ?_
        show Steps p.tables e below (T140.setTop (mkF m 343 #[.val (.int p0), .val (.int p1), .val (.int p2), .val (.ref b7), .val (.ref b45), .val (.ref b85), .val (.int i143), .val (.int i144), .unset, .unset, .unset] [])) _
        refine XS.iload X140.here hx rfl (hb hby at_343) rfl ?_
        show Steps p.tables e below (T140.setTop (mkF m 345 #[.val (.int p0), .val (.int p1), .val (.int p2), .val (.ref b7), .val (.ref b45), .val (.ref b85), .val (.int i143), .val (.int i144), .unset, .unset, .unset] [(.int i144)])) _
        refine XS.iconst X140.here hx rfl (hb hby at_345) ?_
        exact kt)
      by_cases hc180 : i144 = (2 : Int32)
      · obtain ⟨cla181, Ara181, qa181, Sa181, Na181, Ha181, Ga181⟩ := And.left ⟨V140, trivial⟩
        have hina181 : ¬ (i143 < 0 ∨ cla181.slots.size ≤ (i143).toNatClampNeg) := inb_of Sa181 ⟨ig, il⟩
        have hl182 : (hi.toInt16.toInt32) = hi := q3
        obtain ⟨cla183, Ara183, qa183, Sa183, Na183, Ha183, Ga183⟩ := And.left ⟨V142, trivial⟩
        have hina183 : ¬ (i143 < 0 ∨ cla183.slots.size ≤ (i143).toNatClampNeg) := inb_of Sa183 ⟨ig, il⟩
        have k184 : ∀ t, Steps p.tables e below (T140.setTop (mkF m 393 #[.val (.int p0), .val (.int p1), .val (.int p2), .val (.ref b7), .val (.ref b45), .val (.ref b85), .val (.int i143), .val (.int i144), .val (.int hi), .val (.int hi), .unset] [(.int lo), (.int hi)])) t → Steps p.tables e below (s₁.setTop (entryFrame m #[(.int p0), (.int p1), (.int p2)] maxLocals)) t := fun t kt => k179 t (by
          show Steps p.tables e below (T140.setTop (mkF m 346 #[.val (.int p0), .val (.int p1), .val (.int p2), .val (.ref b7), .val (.ref b45), .val (.ref b85), .val (.int i143), .val (.int i144), .unset, .unset, .unset] [(.int (2 : Int32)), (.int i144)])) _
          refine XS.icmpNo X140.here hx rfl (hb hby at_346) rfl (teq (hc180 : i144 = (2 : Int32))).2 ?_
          show Steps p.tables e below (T140.setTop (mkF m 349 #[.val (.int p0), .val (.int p1), .val (.int p2), .val (.ref b7), .val (.ref b45), .val (.ref b85), .val (.int i143), .val (.int i144), .unset, .unset, .unset] [])) _
          refine XS.aload X140.here hx rfl (hb hby at_349) rfl rfl ?_
          show Steps p.tables e below (T140.setTop (mkF m 351 #[.val (.int p0), .val (.int p1), .val (.int p2), .val (.ref b7), .val (.ref b45), .val (.ref b85), .val (.int i143), .val (.int i144), .unset, .unset, .unset] [(.ref b85)])) _
          refine XS.iload X140.here hx rfl (hb hby at_351) rfl ?_
          show Steps p.tables e below (T140.setTop (mkF m 353 #[.val (.int p0), .val (.int p1), .val (.int p2), .val (.ref b7), .val (.ref b45), .val (.ref b85), .val (.int i143), .val (.int i144), .unset, .unset, .unset] [(.int i143), (.ref b85)])) _
          refine X140.iaload hx (j := i143) (v := (.int hi)) (by rw [e140]; exact Ara181.1) (State.isArrayOf_alike hZ.alike Ara181.2.1) Ara181.2.2 hina181 (Ha181.at hina181 rh) (g := (mkF m 353 #[.val (.int p0), .val (.int p1), .val (.int p2), .val (.ref b7), .val (.ref b45), .val (.ref b85), .val (.int i143), .val (.int i144), .unset, .unset, .unset] [(.int i143), (.ref b85)])) rfl rfl (hb hby at_353) _ ?_
          show Steps p.tables e below (T140.setTop (mkF m 354 #[.val (.int p0), .val (.int p1), .val (.int p2), .val (.ref b7), .val (.ref b45), .val (.ref b85), .val (.int i143), .val (.int i144), .unset, .unset, .unset] [(.int hi)])) _
          refine XS.istore X140.here hx rfl (hb hby at_354) rfl (l' := #[.val (.int p0), .val (.int p1), .val (.int p2), .val (.ref b7), .val (.ref b45), .val (.ref b85), .val (.int i143), .val (.int i144), .val (.int hi), .unset, .unset]) rfl ?_
          show Steps p.tables e below (T140.setTop (mkF m 356 #[.val (.int p0), .val (.int p1), .val (.int p2), .val (.ref b7), .val (.ref b45), .val (.ref b85), .val (.int i143), .val (.int i144), .val (.int hi), .unset, .unset] [])) _
          refine XS.goto X140.here hx rfl (pc0 := 356) (pc' := 381) rfl (hb hby at_356) (by decide) (by decide) ?_
          show Steps p.tables e below (T140.setTop (mkF m 381 #[.val (.int p0), .val (.int p1), .val (.int p2), .val (.ref b7), .val (.ref b45), .val (.ref b85), .val (.int i143), .val (.int i144), .val (.int hi), .unset, .unset] [])) _
          refine XS.iload X140.here hx rfl (hb hby at_381) rfl ?_
          show Steps p.tables e below (T140.setTop (mkF m 383 #[.val (.int p0), .val (.int p1), .val (.int p2), .val (.ref b7), .val (.ref b45), .val (.ref b85), .val (.int i143), .val (.int i144), .val (.int hi), .unset, .unset] [(.int hi)])) _
          refine XS.i2s X140.here hx rfl (hb hby at_383) rfl ?_
          rw [hl182]
          show Steps p.tables e below (T140.setTop (mkF m 384 #[.val (.int p0), .val (.int p1), .val (.int p2), .val (.ref b7), .val (.ref b45), .val (.ref b85), .val (.int i143), .val (.int i144), .val (.int hi), .unset, .unset] [(.int hi)])) _
          refine XS.istore X140.here hx rfl (hb hby at_384) rfl (l' := #[.val (.int p0), .val (.int p1), .val (.int p2), .val (.ref b7), .val (.ref b45), .val (.ref b85), .val (.int i143), .val (.int i144), .val (.int hi), .val (.int hi), .unset]) rfl ?_
          show Steps p.tables e below (T140.setTop (mkF m 386 #[.val (.int p0), .val (.int p1), .val (.int p2), .val (.ref b7), .val (.ref b45), .val (.ref b85), .val (.int i143), .val (.int i144), .val (.int hi), .val (.int hi), .unset] [])) _
          refine XS.iload X140.here hx rfl (hb hby at_386) rfl ?_
          show Steps p.tables e below (T140.setTop (mkF m 388 #[.val (.int p0), .val (.int p1), .val (.int p2), .val (.ref b7), .val (.ref b45), .val (.ref b85), .val (.int i143), .val (.int i144), .val (.int hi), .val (.int hi), .unset] [(.int hi)])) _
          refine XS.aload X140.here hx rfl (hb hby at_388) rfl rfl ?_
          show Steps p.tables e below (T140.setTop (mkF m 390 #[.val (.int p0), .val (.int p1), .val (.int p2), .val (.ref b7), .val (.ref b45), .val (.ref b85), .val (.int i143), .val (.int i144), .val (.int hi), .val (.int hi), .unset] [(.ref b45), (.int hi)])) _
          refine XS.iload X140.here hx rfl (hb hby at_390) rfl ?_
          show Steps p.tables e below (T140.setTop (mkF m 392 #[.val (.int p0), .val (.int p1), .val (.int p2), .val (.ref b7), .val (.ref b45), .val (.ref b85), .val (.int i143), .val (.int i144), .val (.int hi), .val (.int hi), .unset] [(.int i143), (.ref b45), (.int hi)])) _
          refine X140.iaload hx (j := i143) (v := (.int lo)) (by rw [e140]; exact Ara183.1) (State.isArrayOf_alike hZ.alike Ara183.2.1) Ara183.2.2 hina183 (Ha183.at hina183 rl) (g := (mkF m 392 #[.val (.int p0), .val (.int p1), .val (.int p2), .val (.ref b7), .val (.ref b45), .val (.ref b85), .val (.int i143), .val (.int i144), .val (.int hi), .val (.int hi), .unset] [(.int i143), (.ref b45), (.int hi)])) rfl rfl (hb hby at_392) _ ?_
          exact kt)
        by_cases hc185 : hi < lo
        · obtain ⟨cla186, Ara186, qa186, Sa186, Na186, Ha186, Ga186⟩ := And.left ⟨V141, trivial⟩
          have hina186 : ¬ (i143 < 0 ∨ cla186.slots.size ≤ (i143).toNatClampNeg) := inb_of Sa186 ⟨ig, il⟩
          obtain ⟨cq187, kq187, q187a, q187b, q187c⟩ := isOf hZ e140 Ei
          obtain ⟨_, _, ⟨T187, L187, k187, n187⟩, -, X187, ⟨Lc187, hQ187, l187, y187, z187⟩, st187⟩ := X140.virtualBack hx (y := (⟨"com/example/idem_log/idemlog/protocol/Api", "serves", "(S)Z"⟩ : MethodName)) (z := (⟨"com/example/idem_log/idemlog/protocol/Api", "serves", "(S)Z"⟩ : MethodName)) hown (mvT hZ (hw _ (List.mem_of_getElem? (i := 40) rfl))) (mvT hZ (hw _ (List.mem_of_getElem? (i := 41) rfl))) (notFace_of_selects (args := #[]) (mvT hZ (hw _ (List.mem_of_getElem? (i := 43) rfl)))) (mvT hZ (hw _ (List.mem_of_getElem? (i := 43) rfl))) (mvT hZ (hw _ (List.mem_of_getElem? (i := 42) rfl))) (by decide) (backOf (W := 0) (rm1 l Z a0 hw [] ai hi lo hi h140 n0 (Nat.le_trans Z0 EX140.1) Fmin Fmax) hZ (hw _ (List.mem_of_getElem? (i := 44) rfl)) (hw _ (List.mem_of_getElem? (i := 3) rfl)) (by decide) (by decide)) q187a q187c (g := (mkF m 419 #[.val (.int p0), .val (.int p1), .val (.int p2), .val (.ref b7), .val (.ref b45), .val (.ref b85), .val (.int i143), .val (.int i144), .val (.int hi), .val (.int hi), .val (.int (0 : Int32))] [(.int hi), (.ref ai)])) rfl (by rw [hml]; rfl) (Steps.refl _) (argsL := [(.int hi)]) (rest := []) (lenOf pd_0 rfl) rfl (by show 2 * 0 + _ ≤ _; exact Nat.le_of_eq rfl) (hb hby at_419) (fun _ _ => ⟨rfl, e140, (by decide : 3 + 0 ≤ _), (by decide : 51 + 0 ≤ _)⟩)
          dsimp only [Pt.U, Pt.locs, Pt.cells, Pt.slots] at X187 l187 y187 z187 st187 hQ187
          rw [l187, y187, z187] at X187
          unfold Q1 at hQ187
          have k188 : ∀ t, Steps p.tables e below (T140.setTop (mkF m 419 #[.val (.int p0), .val (.int p1), .val (.int p2), .val (.ref b7), .val (.ref b45), .val (.ref b85), .val (.int i143), .val (.int i144), .val (.int hi), .val (.int hi), .val (.int (0 : Int32))] [(.int hi), (.ref ai)])) t → Steps p.tables e below (s₁.setTop (entryFrame m #[(.int p0), (.int p1), (.int p2)] maxLocals)) t := fun t kt => k184 t (by
            show Steps p.tables e below (T140.setTop (mkF m 393 #[.val (.int p0), .val (.int p1), .val (.int p2), .val (.ref b7), .val (.ref b45), .val (.ref b85), .val (.int i143), .val (.int i144), .val (.int hi), .val (.int hi), .unset] [(.int lo), (.int hi)])) _
            refine XS.icmpYes X140.here hx rfl (pc0 := 393) (pc' := 410) rfl (hb hby at_393) rfl (tlt (hc185 : hi < lo)).1 (by decide) (by decide) ?_
            show Steps p.tables e below (T140.setTop (mkF m 410 #[.val (.int p0), .val (.int p1), .val (.int p2), .val (.ref b7), .val (.ref b45), .val (.ref b85), .val (.int i143), .val (.int i144), .val (.int hi), .val (.int hi), .unset] [])) _
            refine XS.iconst X140.here hx rfl (hb hby at_410) ?_
            show Steps p.tables e below (T140.setTop (mkF m 411 #[.val (.int p0), .val (.int p1), .val (.int p2), .val (.ref b7), .val (.ref b45), .val (.ref b85), .val (.int i143), .val (.int i144), .val (.int hi), .val (.int hi), .unset] [(.int (0 : Int32))])) _
            refine XS.istore X140.here hx rfl (hb hby at_411) rfl (l' := #[.val (.int p0), .val (.int p1), .val (.int p2), .val (.ref b7), .val (.ref b45), .val (.ref b85), .val (.int i143), .val (.int i144), .val (.int hi), .val (.int hi), .val (.int (0 : Int32))]) rfl ?_
            show Steps p.tables e below (T140.setTop (mkF m 413 #[.val (.int p0), .val (.int p1), .val (.int p2), .val (.ref b7), .val (.ref b45), .val (.ref b85), .val (.int i143), .val (.int i144), .val (.int hi), .val (.int hi), .val (.int (0 : Int32))] [])) _
            refine XS.aloadN X140.here hx rfl (hb hby at_413) rfl rfl ?_
            show Steps p.tables e below (T140.setTop (mkF m 414 #[.val (.int p0), .val (.int p1), .val (.int p2), .val (.ref b7), .val (.ref b45), .val (.ref b85), .val (.int i143), .val (.int i144), .val (.int hi), .val (.int hi), .val (.int (0 : Int32))] [(.ref b7)])) _
            refine XS.iload X140.here hx rfl (hb hby at_414) rfl ?_
            show Steps p.tables e below (T140.setTop (mkF m 416 #[.val (.int p0), .val (.int p1), .val (.int p2), .val (.ref b7), .val (.ref b45), .val (.ref b85), .val (.int i143), .val (.int i144), .val (.int hi), .val (.int hi), .val (.int (0 : Int32))] [(.int i143), (.ref b7)])) _
            refine X140.aaload hx (j := i143) (v := (.ref ai)) (by rw [e140]; exact Ara186.1) (State.isArrayOf_alike hZ.alike Ara186.2.1) rfl Ara186.2.2 hina186 (Ha186.at hina186 ra) (g := (mkF m 416 #[.val (.int p0), .val (.int p1), .val (.int p2), .val (.ref b7), .val (.ref b45), .val (.ref b85), .val (.int i143), .val (.int i144), .val (.int hi), .val (.int hi), .val (.int (0 : Int32))] [(.int i143), (.ref b7)])) rfl rfl (hb hby at_416) _ ?_
            show Steps p.tables e below (T140.setTop (mkF m 417 #[.val (.int p0), .val (.int p1), .val (.int p2), .val (.ref b7), .val (.ref b45), .val (.ref b85), .val (.int i143), .val (.int i144), .val (.int hi), .val (.int hi), .val (.int (0 : Int32))] [(.ref ai)])) _
            refine XS.iload X140.here hx rfl (hb hby at_417) rfl ?_
            exact kt)
          rw [((by rw [f1, if_pos (hc185 : hi < lo)]) : (f1 ai hi lo hi) = (0 : Int32))] at hQ187
          obtain ⟨rfl, N187q, e187⟩ := hQ187
          have N187 := Fr.app N140' N187q
          obtain ⟨fs, hr, hrun, hended, hW, hsame⟩ := X187.leave (v := some (.int (1 : Int32))) (fun h => by rw [Bd.returns] at h; cases h)
          refine ⟨_, _, k188 _ ?_, hrun, hended, _, _, rfl, ?_, ⟨_, rfl⟩, hW, hsame.mono (by decide) (by decide)⟩
          · show Steps p.tables e below (T140.setTop (mkF m 419 #[.val (.int p0), .val (.int p1), .val (.int p2), .val (.ref b7), .val (.ref b45), .val (.ref b85), .val (.int i143), .val (.int i144), .val (.int hi), .val (.int hi), .val (.int (0 : Int32))] [(.int hi), (.ref ai)])) _
            refine st187.trans ?_
            show Steps p.tables e below (T187.setTop (mkF m 422 #[.val (.int p0), .val (.int p1), .val (.int p2), .val (.ref b7), .val (.ref b45), .val (.ref b85), .val (.int i143), .val (.int i144), .val (.int hi), .val (.int hi), .val (.int (0 : Int32))] [(.int (0 : Int32))])) _
            refine XS.iload X187.here hx rfl (hb hby at_422) rfl ?_
            show Steps p.tables e below (T187.setTop (mkF m 424 #[.val (.int p0), .val (.int p1), .val (.int p2), .val (.ref b7), .val (.ref b45), .val (.ref b85), .val (.int i143), .val (.int i144), .val (.int hi), .val (.int hi), .val (.int (0 : Int32))] [(.int (0 : Int32)), (.int (0 : Int32))])) _
            refine XS.icmpNo X187.here hx rfl (hb hby at_424) rfl (teq (rfl : (0 : Int32) = (0 : Int32))).2 ?_
            show Steps p.tables e below (T187.setTop (mkF m 427 #[.val (.int p0), .val (.int p1), .val (.int p2), .val (.ref b7), .val (.ref b45), .val (.ref b85), .val (.int i143), .val (.int i144), .val (.int hi), .val (.int hi), .val (.int (0 : Int32))] [])) _
            refine XS.iconst X187.here hx rfl (hb hby at_427) ?_
            show Steps p.tables e below (T187.setTop (mkF m 428 #[.val (.int p0), .val (.int p1), .val (.int p2), .val (.ref b7), .val (.ref b45), .val (.ref b85), .val (.int i143), .val (.int i144), .val (.int hi), .val (.int hi), .val (.int (0 : Int32))] [(.int (1 : Int32))])) _
            refine XS.goto X187.here hx rfl (pc0 := 428) (pc' := 432) rfl (hb hby at_428) (by decide) (by decide) ?_
            show Steps p.tables e below (T187.setTop (mkF m 432 #[.val (.int p0), .val (.int p1), .val (.int p2), .val (.ref b7), .val (.ref b45), .val (.ref b85), .val (.int i143), .val (.int i144), .val (.int hi), .val (.int hi), .val (.int (0 : Int32))] [(.int (1 : Int32))])) _
            exact retN X187 hx (t := .boolean) Bd.returns (by simp) (hb hby at_432) hr
          · show Q0 Z p0 p1 p2 wPRODUCE wFETCH wLIST_OFFSETS wMETADATA wOFFSET_COMMIT wOFFSET_FETCH wFIND_COORDINATOR wJOIN_GROUP wHEARTBEAT wLEAVE_GROUP wSYNC_GROUP wAPI_VERSIONS wINIT_PRODUCER_ID wADD_PARTITIONS_TO_TXN wADD_OFFSETS_TO_TXN wEND_TXN wTXN_OFFSET_COMMIT h0 n0 _ T187.heap _
            rw [e187]
            exact ⟨rfl, N187⟩
        · obtain ⟨cla189, Ara189, qa189, Sa189, Na189, Ha189, Ga189⟩ := And.left ⟨V140, trivial⟩
          have hina189 : ¬ (i143 < 0 ∨ cla189.slots.size ≤ (i143).toNatClampNeg) := inb_of Sa189 ⟨ig, il⟩
          obtain ⟨cla190, Ara190, qa190, Sa190, Na190, Ha190, Ga190⟩ := And.left ⟨V141, trivial⟩
          have hina190 : ¬ (i143 < 0 ∨ cla190.slots.size ≤ (i143).toNatClampNeg) := inb_of Sa190 ⟨ig, il⟩
          obtain ⟨cq191, kq191, q191a, q191b, q191c⟩ := isOf hZ e140 Ei
          obtain ⟨_, _, ⟨T191, L191, k191, n191⟩, -, X191, ⟨Lc191, hQ191, l191, y191, z191⟩, st191⟩ := X140.virtualBack hx (y := (⟨"com/example/idem_log/idemlog/protocol/Api", "serves", "(S)Z"⟩ : MethodName)) (z := (⟨"com/example/idem_log/idemlog/protocol/Api", "serves", "(S)Z"⟩ : MethodName)) hown (mvT hZ (hw _ (List.mem_of_getElem? (i := 40) rfl))) (mvT hZ (hw _ (List.mem_of_getElem? (i := 41) rfl))) (notFace_of_selects (args := #[]) (mvT hZ (hw _ (List.mem_of_getElem? (i := 43) rfl)))) (mvT hZ (hw _ (List.mem_of_getElem? (i := 43) rfl))) (mvT hZ (hw _ (List.mem_of_getElem? (i := 42) rfl))) (by decide) (backOf (W := 0) (rm1 l Z a0 hw [] ai hi lo hi h140 n0 (Nat.le_trans Z0 EX140.1) Fmin Fmax) hZ (hw _ (List.mem_of_getElem? (i := 44) rfl)) (hw _ (List.mem_of_getElem? (i := 3) rfl)) (by decide) (by decide)) q191a q191c (g := (mkF m 419 #[.val (.int p0), .val (.int p1), .val (.int p2), .val (.ref b7), .val (.ref b45), .val (.ref b85), .val (.int i143), .val (.int i144), .val (.int hi), .val (.int hi), .val (.int (1 : Int32))] [(.int hi), (.ref ai)])) rfl (by rw [hml]; rfl) (Steps.refl _) (argsL := [(.int hi)]) (rest := []) (lenOf pd_0 rfl) rfl (by show 2 * 0 + _ ≤ _; exact Nat.le_of_eq rfl) (hb hby at_419) (fun _ _ => ⟨rfl, e140, (by decide : 3 + 0 ≤ _), (by decide : 51 + 0 ≤ _)⟩)
          dsimp only [Pt.U, Pt.locs, Pt.cells, Pt.slots] at X191 l191 y191 z191 st191 hQ191
          rw [l191, y191, z191] at X191
          unfold Q1 at hQ191
          have k192 : ∀ t, Steps p.tables e below (T140.setTop (mkF m 419 #[.val (.int p0), .val (.int p1), .val (.int p2), .val (.ref b7), .val (.ref b45), .val (.ref b85), .val (.int i143), .val (.int i144), .val (.int hi), .val (.int hi), .val (.int (1 : Int32))] [(.int hi), (.ref ai)])) t → Steps p.tables e below (s₁.setTop (entryFrame m #[(.int p0), (.int p1), (.int p2)] maxLocals)) t := fun t kt => k184 t (by
            show Steps p.tables e below (T140.setTop (mkF m 393 #[.val (.int p0), .val (.int p1), .val (.int p2), .val (.ref b7), .val (.ref b45), .val (.ref b85), .val (.int i143), .val (.int i144), .val (.int hi), .val (.int hi), .unset] [(.int lo), (.int hi)])) _
            refine XS.icmpNo X140.here hx rfl (hb hby at_393) rfl (flt (hc185 : ¬ (hi < lo))).1 ?_
            show Steps p.tables e below (T140.setTop (mkF m 396 #[.val (.int p0), .val (.int p1), .val (.int p2), .val (.ref b7), .val (.ref b45), .val (.ref b85), .val (.int i143), .val (.int i144), .val (.int hi), .val (.int hi), .unset] [])) _
            refine XS.iload X140.here hx rfl (hb hby at_396) rfl ?_
            show Steps p.tables e below (T140.setTop (mkF m 398 #[.val (.int p0), .val (.int p1), .val (.int p2), .val (.ref b7), .val (.ref b45), .val (.ref b85), .val (.int i143), .val (.int i144), .val (.int hi), .val (.int hi), .unset] [(.int hi)])) _
            refine XS.aload X140.here hx rfl (hb hby at_398) rfl rfl ?_
            show Steps p.tables e below (T140.setTop (mkF m 400 #[.val (.int p0), .val (.int p1), .val (.int p2), .val (.ref b7), .val (.ref b45), .val (.ref b85), .val (.int i143), .val (.int i144), .val (.int hi), .val (.int hi), .unset] [(.ref b85), (.int hi)])) _
            refine XS.iload X140.here hx rfl (hb hby at_400) rfl ?_
            show Steps p.tables e below (T140.setTop (mkF m 402 #[.val (.int p0), .val (.int p1), .val (.int p2), .val (.ref b7), .val (.ref b45), .val (.ref b85), .val (.int i143), .val (.int i144), .val (.int hi), .val (.int hi), .unset] [(.int i143), (.ref b85), (.int hi)])) _
            refine X140.iaload hx (j := i143) (v := (.int hi)) (by rw [e140]; exact Ara189.1) (State.isArrayOf_alike hZ.alike Ara189.2.1) Ara189.2.2 hina189 (Ha189.at hina189 rh) (g := (mkF m 402 #[.val (.int p0), .val (.int p1), .val (.int p2), .val (.ref b7), .val (.ref b45), .val (.ref b85), .val (.int i143), .val (.int i144), .val (.int hi), .val (.int hi), .unset] [(.int i143), (.ref b85), (.int hi)])) rfl rfl (hb hby at_402) _ ?_
            show Steps p.tables e below (T140.setTop (mkF m 403 #[.val (.int p0), .val (.int p1), .val (.int p2), .val (.ref b7), .val (.ref b45), .val (.ref b85), .val (.int i143), .val (.int i144), .val (.int hi), .val (.int hi), .unset] [(.int hi), (.int hi)])) _
            refine XS.icmpNo X140.here hx rfl (hb hby at_403) rfl (flt ((by first | exact own_irr | decide) : ¬ (hi < hi))).2.2.1 ?_
            show Steps p.tables e below (T140.setTop (mkF m 406 #[.val (.int p0), .val (.int p1), .val (.int p2), .val (.ref b7), .val (.ref b45), .val (.ref b85), .val (.int i143), .val (.int i144), .val (.int hi), .val (.int hi), .unset] [])) _
            refine XS.iconst X140.here hx rfl (hb hby at_406) ?_
            show Steps p.tables e below (T140.setTop (mkF m 407 #[.val (.int p0), .val (.int p1), .val (.int p2), .val (.ref b7), .val (.ref b45), .val (.ref b85), .val (.int i143), .val (.int i144), .val (.int hi), .val (.int hi), .unset] [(.int (1 : Int32))])) _
            refine XS.goto X140.here hx rfl (pc0 := 407) (pc' := 411) rfl (hb hby at_407) (by decide) (by decide) ?_
            show Steps p.tables e below (T140.setTop (mkF m 411 #[.val (.int p0), .val (.int p1), .val (.int p2), .val (.ref b7), .val (.ref b45), .val (.ref b85), .val (.int i143), .val (.int i144), .val (.int hi), .val (.int hi), .unset] [(.int (1 : Int32))])) _
            refine XS.istore X140.here hx rfl (hb hby at_411) rfl (l' := #[.val (.int p0), .val (.int p1), .val (.int p2), .val (.ref b7), .val (.ref b45), .val (.ref b85), .val (.int i143), .val (.int i144), .val (.int hi), .val (.int hi), .val (.int (1 : Int32))]) rfl ?_
            show Steps p.tables e below (T140.setTop (mkF m 413 #[.val (.int p0), .val (.int p1), .val (.int p2), .val (.ref b7), .val (.ref b45), .val (.ref b85), .val (.int i143), .val (.int i144), .val (.int hi), .val (.int hi), .val (.int (1 : Int32))] [])) _
            refine XS.aloadN X140.here hx rfl (hb hby at_413) rfl rfl ?_
            show Steps p.tables e below (T140.setTop (mkF m 414 #[.val (.int p0), .val (.int p1), .val (.int p2), .val (.ref b7), .val (.ref b45), .val (.ref b85), .val (.int i143), .val (.int i144), .val (.int hi), .val (.int hi), .val (.int (1 : Int32))] [(.ref b7)])) _
            refine XS.iload X140.here hx rfl (hb hby at_414) rfl ?_
            show Steps p.tables e below (T140.setTop (mkF m 416 #[.val (.int p0), .val (.int p1), .val (.int p2), .val (.ref b7), .val (.ref b45), .val (.ref b85), .val (.int i143), .val (.int i144), .val (.int hi), .val (.int hi), .val (.int (1 : Int32))] [(.int i143), (.ref b7)])) _
            refine X140.aaload hx (j := i143) (v := (.ref ai)) (by rw [e140]; exact Ara190.1) (State.isArrayOf_alike hZ.alike Ara190.2.1) rfl Ara190.2.2 hina190 (Ha190.at hina190 ra) (g := (mkF m 416 #[.val (.int p0), .val (.int p1), .val (.int p2), .val (.ref b7), .val (.ref b45), .val (.ref b85), .val (.int i143), .val (.int i144), .val (.int hi), .val (.int hi), .val (.int (1 : Int32))] [(.int i143), (.ref b7)])) rfl rfl (hb hby at_416) _ ?_
            show Steps p.tables e below (T140.setTop (mkF m 417 #[.val (.int p0), .val (.int p1), .val (.int p2), .val (.ref b7), .val (.ref b45), .val (.ref b85), .val (.int i143), .val (.int i144), .val (.int hi), .val (.int hi), .val (.int (1 : Int32))] [(.ref ai)])) _
            refine XS.iload X140.here hx rfl (hb hby at_417) rfl ?_
            exact kt)
          rw [((by rw [f1, if_neg (hc185 : ¬ (hi < lo)), if_neg ((by first | exact own_irr | decide) : ¬ (hi < hi))]) : (f1 ai hi lo hi) = (1 : Int32))] at hQ191
          obtain ⟨rfl, N191q, e191⟩ := hQ191
          have N191 := Fr.app N140' N191q
          obtain ⟨fs, hr, hrun, hended, hW, hsame⟩ := X191.leave (v := some (.int (1 : Int32))) (fun h => by rw [Bd.returns] at h; cases h)
          refine ⟨_, _, k192 _ ?_, hrun, hended, _, _, rfl, ?_, ⟨_, rfl⟩, hW, hsame.mono (by decide) (by decide)⟩
          · show Steps p.tables e below (T140.setTop (mkF m 419 #[.val (.int p0), .val (.int p1), .val (.int p2), .val (.ref b7), .val (.ref b45), .val (.ref b85), .val (.int i143), .val (.int i144), .val (.int hi), .val (.int hi), .val (.int (1 : Int32))] [(.int hi), (.ref ai)])) _
            refine st191.trans ?_
            show Steps p.tables e below (T191.setTop (mkF m 422 #[.val (.int p0), .val (.int p1), .val (.int p2), .val (.ref b7), .val (.ref b45), .val (.ref b85), .val (.int i143), .val (.int i144), .val (.int hi), .val (.int hi), .val (.int (1 : Int32))] [(.int (1 : Int32))])) _
            refine XS.iload X191.here hx rfl (hb hby at_422) rfl ?_
            show Steps p.tables e below (T191.setTop (mkF m 424 #[.val (.int p0), .val (.int p1), .val (.int p2), .val (.ref b7), .val (.ref b45), .val (.ref b85), .val (.int i143), .val (.int i144), .val (.int hi), .val (.int hi), .val (.int (1 : Int32))] [(.int (1 : Int32)), (.int (1 : Int32))])) _
            refine XS.icmpNo X191.here hx rfl (hb hby at_424) rfl (teq (rfl : (1 : Int32) = (1 : Int32))).2 ?_
            show Steps p.tables e below (T191.setTop (mkF m 427 #[.val (.int p0), .val (.int p1), .val (.int p2), .val (.ref b7), .val (.ref b45), .val (.ref b85), .val (.int i143), .val (.int i144), .val (.int hi), .val (.int hi), .val (.int (1 : Int32))] [])) _
            refine XS.iconst X191.here hx rfl (hb hby at_427) ?_
            show Steps p.tables e below (T191.setTop (mkF m 428 #[.val (.int p0), .val (.int p1), .val (.int p2), .val (.ref b7), .val (.ref b45), .val (.ref b85), .val (.int i143), .val (.int i144), .val (.int hi), .val (.int hi), .val (.int (1 : Int32))] [(.int (1 : Int32))])) _
            refine XS.goto X191.here hx rfl (pc0 := 428) (pc' := 432) rfl (hb hby at_428) (by decide) (by decide) ?_
            show Steps p.tables e below (T191.setTop (mkF m 432 #[.val (.int p0), .val (.int p1), .val (.int p2), .val (.ref b7), .val (.ref b45), .val (.ref b85), .val (.int i143), .val (.int i144), .val (.int hi), .val (.int hi), .val (.int (1 : Int32))] [(.int (1 : Int32))])) _
            exact retN X191 hx (t := .boolean) Bd.returns (by simp) (hb hby at_432) hr
          · show Q0 Z p0 p1 p2 wPRODUCE wFETCH wLIST_OFFSETS wMETADATA wOFFSET_COMMIT wOFFSET_FETCH wFIND_COORDINATOR wJOIN_GROUP wHEARTBEAT wLEAVE_GROUP wSYNC_GROUP wAPI_VERSIONS wINIT_PRODUCER_ID wADD_PARTITIONS_TO_TXN wADD_OFFSETS_TO_TXN wEND_TXN wTXN_OFFSET_COMMIT h0 n0 _ T191.heap _
            rw [e191]
            exact ⟨rfl, N191⟩
      · have k193 : ∀ t, Steps p.tables e below (T140.setTop (mkF m 362 #[.val (.int p0), .val (.int p1), .val (.int p2), .val (.ref b7), .val (.ref b45), .val (.ref b85), .val (.int i143), .val (.int i144), .unset, .unset, .unset] [(.int (3 : Int32)), (.int i144)])) t → Steps p.tables e below (s₁.setTop (entryFrame m #[(.int p0), (.int p1), (.int p2)] maxLocals)) t := fun t kt => k179 t (by
          show Steps p.tables e below (T140.setTop (mkF m 346 #[.val (.int p0), .val (.int p1), .val (.int p2), .val (.ref b7), .val (.ref b45), .val (.ref b85), .val (.int i143), .val (.int i144), .unset, .unset, .unset] [(.int (2 : Int32)), (.int i144)])) _
          refine XS.icmpYes X140.here hx rfl (pc0 := 346) (pc' := 359) rfl (hb hby at_346) rfl (feq (hc180 : ¬ (i144 = (2 : Int32)))).2 (by decide) (by decide) ?_
          show Steps p.tables e below (T140.setTop (mkF m 359 #[.val (.int p0), .val (.int p1), .val (.int p2), .val (.ref b7), .val (.ref b45), .val (.ref b85), .val (.int i143), .val (.int i144), .unset, .unset, .unset] [])) _
          refine XS.iload X140.here hx rfl (hb hby at_359) rfl ?_
          show Steps p.tables e below (T140.setTop (mkF m 361 #[.val (.int p0), .val (.int p1), .val (.int p2), .val (.ref b7), .val (.ref b45), .val (.ref b85), .val (.int i143), .val (.int i144), .unset, .unset, .unset] [(.int i144)])) _
          refine XS.iconst X140.here hx rfl (hb hby at_361) ?_
          exact kt)
        by_cases hc194 : i144 = (3 : Int32)
        · obtain ⟨cla195, Ara195, qa195, Sa195, Na195, Ha195, Ga195⟩ := And.left ⟨V140, trivial⟩
          have hina195 : ¬ (i143 < 0 ∨ cla195.slots.size ≤ (i143).toNatClampNeg) := inb_of Sa195 ⟨ig, il⟩
          obtain ⟨i196, hi196⟩ : ∃ z, z = (hi + (1 : Int32)) := ⟨_, rfl⟩
          have hl197 : (i196.toInt16.toInt32) = i196 := by rw [hi196]; exact q4
          obtain ⟨cla198, Ara198, qa198, Sa198, Na198, Ha198, Ga198⟩ := And.left ⟨V142, trivial⟩
          have hina198 : ¬ (i143 < 0 ∨ cla198.slots.size ≤ (i143).toNatClampNeg) := inb_of Sa198 ⟨ig, il⟩
          have k199 : ∀ t, Steps p.tables e below (T140.setTop (mkF m 393 #[.val (.int p0), .val (.int p1), .val (.int p2), .val (.ref b7), .val (.ref b45), .val (.ref b85), .val (.int i143), .val (.int i144), .val (.int i196), .val (.int i196), .unset] [(.int lo), (.int i196)])) t → Steps p.tables e below (s₁.setTop (entryFrame m #[(.int p0), (.int p1), (.int p2)] maxLocals)) t := fun t kt => k193 t (by
            show Steps p.tables e below (T140.setTop (mkF m 362 #[.val (.int p0), .val (.int p1), .val (.int p2), .val (.ref b7), .val (.ref b45), .val (.ref b85), .val (.int i143), .val (.int i144), .unset, .unset, .unset] [(.int (3 : Int32)), (.int i144)])) _
            refine XS.icmpNo X140.here hx rfl (hb hby at_362) rfl (teq (hc194 : i144 = (3 : Int32))).2 ?_
            show Steps p.tables e below (T140.setTop (mkF m 365 #[.val (.int p0), .val (.int p1), .val (.int p2), .val (.ref b7), .val (.ref b45), .val (.ref b85), .val (.int i143), .val (.int i144), .unset, .unset, .unset] [])) _
            refine XS.aload X140.here hx rfl (hb hby at_365) rfl rfl ?_
            show Steps p.tables e below (T140.setTop (mkF m 367 #[.val (.int p0), .val (.int p1), .val (.int p2), .val (.ref b7), .val (.ref b45), .val (.ref b85), .val (.int i143), .val (.int i144), .unset, .unset, .unset] [(.ref b85)])) _
            refine XS.iload X140.here hx rfl (hb hby at_367) rfl ?_
            show Steps p.tables e below (T140.setTop (mkF m 369 #[.val (.int p0), .val (.int p1), .val (.int p2), .val (.ref b7), .val (.ref b45), .val (.ref b85), .val (.int i143), .val (.int i144), .unset, .unset, .unset] [(.int i143), (.ref b85)])) _
            refine X140.iaload hx (j := i143) (v := (.int hi)) (by rw [e140]; exact Ara195.1) (State.isArrayOf_alike hZ.alike Ara195.2.1) Ara195.2.2 hina195 (Ha195.at hina195 rh) (g := (mkF m 369 #[.val (.int p0), .val (.int p1), .val (.int p2), .val (.ref b7), .val (.ref b45), .val (.ref b85), .val (.int i143), .val (.int i144), .unset, .unset, .unset] [(.int i143), (.ref b85)])) rfl rfl (hb hby at_369) _ ?_
            show Steps p.tables e below (T140.setTop (mkF m 370 #[.val (.int p0), .val (.int p1), .val (.int p2), .val (.ref b7), .val (.ref b45), .val (.ref b85), .val (.int i143), .val (.int i144), .unset, .unset, .unset] [(.int hi)])) _
            refine XS.iconst X140.here hx rfl (hb hby at_370) ?_
            show Steps p.tables e below (T140.setTop (mkF m 371 #[.val (.int p0), .val (.int p1), .val (.int p2), .val (.ref b7), .val (.ref b45), .val (.ref b85), .val (.int i143), .val (.int i144), .unset, .unset, .unset] [(.int (1 : Int32)), (.int hi)])) _
            refine XS.iadd X140.here hx rfl (hb hby at_371) rfl ?_
            rw [← hi196]
            show Steps p.tables e below (T140.setTop (mkF m 372 #[.val (.int p0), .val (.int p1), .val (.int p2), .val (.ref b7), .val (.ref b45), .val (.ref b85), .val (.int i143), .val (.int i144), .unset, .unset, .unset] [(.int i196)])) _
            refine XS.istore X140.here hx rfl (hb hby at_372) rfl (l' := #[.val (.int p0), .val (.int p1), .val (.int p2), .val (.ref b7), .val (.ref b45), .val (.ref b85), .val (.int i143), .val (.int i144), .val (.int i196), .unset, .unset]) rfl ?_
            show Steps p.tables e below (T140.setTop (mkF m 374 #[.val (.int p0), .val (.int p1), .val (.int p2), .val (.ref b7), .val (.ref b45), .val (.ref b85), .val (.int i143), .val (.int i144), .val (.int i196), .unset, .unset] [])) _
            refine XS.goto X140.here hx rfl (pc0 := 374) (pc' := 381) rfl (hb hby at_374) (by decide) (by decide) ?_
            show Steps p.tables e below (T140.setTop (mkF m 381 #[.val (.int p0), .val (.int p1), .val (.int p2), .val (.ref b7), .val (.ref b45), .val (.ref b85), .val (.int i143), .val (.int i144), .val (.int i196), .unset, .unset] [])) _
            refine XS.iload X140.here hx rfl (hb hby at_381) rfl ?_
            show Steps p.tables e below (T140.setTop (mkF m 383 #[.val (.int p0), .val (.int p1), .val (.int p2), .val (.ref b7), .val (.ref b45), .val (.ref b85), .val (.int i143), .val (.int i144), .val (.int i196), .unset, .unset] [(.int i196)])) _
            refine XS.i2s X140.here hx rfl (hb hby at_383) rfl ?_
            rw [hl197]
            show Steps p.tables e below (T140.setTop (mkF m 384 #[.val (.int p0), .val (.int p1), .val (.int p2), .val (.ref b7), .val (.ref b45), .val (.ref b85), .val (.int i143), .val (.int i144), .val (.int i196), .unset, .unset] [(.int i196)])) _
            refine XS.istore X140.here hx rfl (hb hby at_384) rfl (l' := #[.val (.int p0), .val (.int p1), .val (.int p2), .val (.ref b7), .val (.ref b45), .val (.ref b85), .val (.int i143), .val (.int i144), .val (.int i196), .val (.int i196), .unset]) rfl ?_
            show Steps p.tables e below (T140.setTop (mkF m 386 #[.val (.int p0), .val (.int p1), .val (.int p2), .val (.ref b7), .val (.ref b45), .val (.ref b85), .val (.int i143), .val (.int i144), .val (.int i196), .val (.int i196), .unset] [])) _
            refine XS.iload X140.here hx rfl (hb hby at_386) rfl ?_
            show Steps p.tables e below (T140.setTop (mkF m 388 #[.val (.int p0), .val (.int p1), .val (.int p2), .val (.ref b7), .val (.ref b45), .val (.ref b85), .val (.int i143), .val (.int i144), .val (.int i196), .val (.int i196), .unset] [(.int i196)])) _
            refine XS.aload X140.here hx rfl (hb hby at_388) rfl rfl ?_
            show Steps p.tables e below (T140.setTop (mkF m 390 #[.val (.int p0), .val (.int p1), .val (.int p2), .val (.ref b7), .val (.ref b45), .val (.ref b85), .val (.int i143), .val (.int i144), .val (.int i196), .val (.int i196), .unset] [(.ref b45), (.int i196)])) _
            refine XS.iload X140.here hx rfl (hb hby at_390) rfl ?_
            show Steps p.tables e below (T140.setTop (mkF m 392 #[.val (.int p0), .val (.int p1), .val (.int p2), .val (.ref b7), .val (.ref b45), .val (.ref b85), .val (.int i143), .val (.int i144), .val (.int i196), .val (.int i196), .unset] [(.int i143), (.ref b45), (.int i196)])) _
            refine X140.iaload hx (j := i143) (v := (.int lo)) (by rw [e140]; exact Ara198.1) (State.isArrayOf_alike hZ.alike Ara198.2.1) Ara198.2.2 hina198 (Ha198.at hina198 rl) (g := (mkF m 392 #[.val (.int p0), .val (.int p1), .val (.int p2), .val (.ref b7), .val (.ref b45), .val (.ref b85), .val (.int i143), .val (.int i144), .val (.int i196), .val (.int i196), .unset] [(.int i143), (.ref b45), (.int i196)])) rfl rfl (hb hby at_392) _ ?_
            exact kt)
          by_cases hc200 : i196 < lo
          · obtain ⟨cla201, Ara201, qa201, Sa201, Na201, Ha201, Ga201⟩ := And.left ⟨V141, trivial⟩
            have hina201 : ¬ (i143 < 0 ∨ cla201.slots.size ≤ (i143).toNatClampNeg) := inb_of Sa201 ⟨ig, il⟩
            obtain ⟨cq202, kq202, q202a, q202b, q202c⟩ := isOf hZ e140 Ei
            obtain ⟨_, _, ⟨T202, L202, k202, n202⟩, -, X202, ⟨Lc202, hQ202, l202, y202, z202⟩, st202⟩ := X140.virtualBack hx (y := (⟨"com/example/idem_log/idemlog/protocol/Api", "serves", "(S)Z"⟩ : MethodName)) (z := (⟨"com/example/idem_log/idemlog/protocol/Api", "serves", "(S)Z"⟩ : MethodName)) hown (mvT hZ (hw _ (List.mem_of_getElem? (i := 40) rfl))) (mvT hZ (hw _ (List.mem_of_getElem? (i := 41) rfl))) (notFace_of_selects (args := #[]) (mvT hZ (hw _ (List.mem_of_getElem? (i := 43) rfl)))) (mvT hZ (hw _ (List.mem_of_getElem? (i := 43) rfl))) (mvT hZ (hw _ (List.mem_of_getElem? (i := 42) rfl))) (by decide) (backOf (W := 0) (rm1 l Z a0 hw [] ai i196 lo hi h140 n0 (Nat.le_trans Z0 EX140.1) Fmin Fmax) hZ (hw _ (List.mem_of_getElem? (i := 44) rfl)) (hw _ (List.mem_of_getElem? (i := 3) rfl)) (by decide) (by decide)) q202a q202c (g := (mkF m 419 #[.val (.int p0), .val (.int p1), .val (.int p2), .val (.ref b7), .val (.ref b45), .val (.ref b85), .val (.int i143), .val (.int i144), .val (.int i196), .val (.int i196), .val (.int (0 : Int32))] [(.int i196), (.ref ai)])) rfl (by rw [hml]; rfl) (Steps.refl _) (argsL := [(.int i196)]) (rest := []) (lenOf pd_0 rfl) rfl (by show 2 * 0 + _ ≤ _; exact Nat.le_of_eq rfl) (hb hby at_419) (fun _ _ => ⟨rfl, e140, (by decide : 3 + 0 ≤ _), (by decide : 51 + 0 ≤ _)⟩)
            dsimp only [Pt.U, Pt.locs, Pt.cells, Pt.slots] at X202 l202 y202 z202 st202 hQ202
            rw [l202, y202, z202] at X202
            unfold Q1 at hQ202
            have k203 : ∀ t, Steps p.tables e below (T140.setTop (mkF m 419 #[.val (.int p0), .val (.int p1), .val (.int p2), .val (.ref b7), .val (.ref b45), .val (.ref b85), .val (.int i143), .val (.int i144), .val (.int i196), .val (.int i196), .val (.int (0 : Int32))] [(.int i196), (.ref ai)])) t → Steps p.tables e below (s₁.setTop (entryFrame m #[(.int p0), (.int p1), (.int p2)] maxLocals)) t := fun t kt => k199 t (by
              show Steps p.tables e below (T140.setTop (mkF m 393 #[.val (.int p0), .val (.int p1), .val (.int p2), .val (.ref b7), .val (.ref b45), .val (.ref b85), .val (.int i143), .val (.int i144), .val (.int i196), .val (.int i196), .unset] [(.int lo), (.int i196)])) _
              refine XS.icmpYes X140.here hx rfl (pc0 := 393) (pc' := 410) rfl (hb hby at_393) rfl (tlt (hc200 : i196 < lo)).1 (by decide) (by decide) ?_
              show Steps p.tables e below (T140.setTop (mkF m 410 #[.val (.int p0), .val (.int p1), .val (.int p2), .val (.ref b7), .val (.ref b45), .val (.ref b85), .val (.int i143), .val (.int i144), .val (.int i196), .val (.int i196), .unset] [])) _
              refine XS.iconst X140.here hx rfl (hb hby at_410) ?_
              show Steps p.tables e below (T140.setTop (mkF m 411 #[.val (.int p0), .val (.int p1), .val (.int p2), .val (.ref b7), .val (.ref b45), .val (.ref b85), .val (.int i143), .val (.int i144), .val (.int i196), .val (.int i196), .unset] [(.int (0 : Int32))])) _
              refine XS.istore X140.here hx rfl (hb hby at_411) rfl (l' := #[.val (.int p0), .val (.int p1), .val (.int p2), .val (.ref b7), .val (.ref b45), .val (.ref b85), .val (.int i143), .val (.int i144), .val (.int i196), .val (.int i196), .val (.int (0 : Int32))]) rfl ?_
              show Steps p.tables e below (T140.setTop (mkF m 413 #[.val (.int p0), .val (.int p1), .val (.int p2), .val (.ref b7), .val (.ref b45), .val (.ref b85), .val (.int i143), .val (.int i144), .val (.int i196), .val (.int i196), .val (.int (0 : Int32))] [])) _
              refine XS.aloadN X140.here hx rfl (hb hby at_413) rfl rfl ?_
              show Steps p.tables e below (T140.setTop (mkF m 414 #[.val (.int p0), .val (.int p1), .val (.int p2), .val (.ref b7), .val (.ref b45), .val (.ref b85), .val (.int i143), .val (.int i144), .val (.int i196), .val (.int i196), .val (.int (0 : Int32))] [(.ref b7)])) _
              refine XS.iload X140.here hx rfl (hb hby at_414) rfl ?_
              show Steps p.tables e below (T140.setTop (mkF m 416 #[.val (.int p0), .val (.int p1), .val (.int p2), .val (.ref b7), .val (.ref b45), .val (.ref b85), .val (.int i143), .val (.int i144), .val (.int i196), .val (.int i196), .val (.int (0 : Int32))] [(.int i143), (.ref b7)])) _
              refine X140.aaload hx (j := i143) (v := (.ref ai)) (by rw [e140]; exact Ara201.1) (State.isArrayOf_alike hZ.alike Ara201.2.1) rfl Ara201.2.2 hina201 (Ha201.at hina201 ra) (g := (mkF m 416 #[.val (.int p0), .val (.int p1), .val (.int p2), .val (.ref b7), .val (.ref b45), .val (.ref b85), .val (.int i143), .val (.int i144), .val (.int i196), .val (.int i196), .val (.int (0 : Int32))] [(.int i143), (.ref b7)])) rfl rfl (hb hby at_416) _ ?_
              show Steps p.tables e below (T140.setTop (mkF m 417 #[.val (.int p0), .val (.int p1), .val (.int p2), .val (.ref b7), .val (.ref b45), .val (.ref b85), .val (.int i143), .val (.int i144), .val (.int i196), .val (.int i196), .val (.int (0 : Int32))] [(.ref ai)])) _
              refine XS.iload X140.here hx rfl (hb hby at_417) rfl ?_
              exact kt)
            rw [((by rw [f1, if_pos (hc200 : i196 < lo)]) : (f1 ai i196 lo hi) = (0 : Int32))] at hQ202
            obtain ⟨rfl, N202q, e202⟩ := hQ202
            have N202 := Fr.app N140' N202q
            obtain ⟨fs, hr, hrun, hended, hW, hsame⟩ := X202.leave (v := some (.int (1 : Int32))) (fun h => by rw [Bd.returns] at h; cases h)
            refine ⟨_, _, k203 _ ?_, hrun, hended, _, _, rfl, ?_, ⟨_, rfl⟩, hW, hsame.mono (by decide) (by decide)⟩
            · show Steps p.tables e below (T140.setTop (mkF m 419 #[.val (.int p0), .val (.int p1), .val (.int p2), .val (.ref b7), .val (.ref b45), .val (.ref b85), .val (.int i143), .val (.int i144), .val (.int i196), .val (.int i196), .val (.int (0 : Int32))] [(.int i196), (.ref ai)])) _
              refine st202.trans ?_
              show Steps p.tables e below (T202.setTop (mkF m 422 #[.val (.int p0), .val (.int p1), .val (.int p2), .val (.ref b7), .val (.ref b45), .val (.ref b85), .val (.int i143), .val (.int i144), .val (.int i196), .val (.int i196), .val (.int (0 : Int32))] [(.int (0 : Int32))])) _
              refine XS.iload X202.here hx rfl (hb hby at_422) rfl ?_
              show Steps p.tables e below (T202.setTop (mkF m 424 #[.val (.int p0), .val (.int p1), .val (.int p2), .val (.ref b7), .val (.ref b45), .val (.ref b85), .val (.int i143), .val (.int i144), .val (.int i196), .val (.int i196), .val (.int (0 : Int32))] [(.int (0 : Int32)), (.int (0 : Int32))])) _
              refine XS.icmpNo X202.here hx rfl (hb hby at_424) rfl (teq (rfl : (0 : Int32) = (0 : Int32))).2 ?_
              show Steps p.tables e below (T202.setTop (mkF m 427 #[.val (.int p0), .val (.int p1), .val (.int p2), .val (.ref b7), .val (.ref b45), .val (.ref b85), .val (.int i143), .val (.int i144), .val (.int i196), .val (.int i196), .val (.int (0 : Int32))] [])) _
              refine XS.iconst X202.here hx rfl (hb hby at_427) ?_
              show Steps p.tables e below (T202.setTop (mkF m 428 #[.val (.int p0), .val (.int p1), .val (.int p2), .val (.ref b7), .val (.ref b45), .val (.ref b85), .val (.int i143), .val (.int i144), .val (.int i196), .val (.int i196), .val (.int (0 : Int32))] [(.int (1 : Int32))])) _
              refine XS.goto X202.here hx rfl (pc0 := 428) (pc' := 432) rfl (hb hby at_428) (by decide) (by decide) ?_
              show Steps p.tables e below (T202.setTop (mkF m 432 #[.val (.int p0), .val (.int p1), .val (.int p2), .val (.ref b7), .val (.ref b45), .val (.ref b85), .val (.int i143), .val (.int i144), .val (.int i196), .val (.int i196), .val (.int (0 : Int32))] [(.int (1 : Int32))])) _
              exact retN X202 hx (t := .boolean) Bd.returns (by simp) (hb hby at_432) hr
            · show Q0 Z p0 p1 p2 wPRODUCE wFETCH wLIST_OFFSETS wMETADATA wOFFSET_COMMIT wOFFSET_FETCH wFIND_COORDINATOR wJOIN_GROUP wHEARTBEAT wLEAVE_GROUP wSYNC_GROUP wAPI_VERSIONS wINIT_PRODUCER_ID wADD_PARTITIONS_TO_TXN wADD_OFFSETS_TO_TXN wEND_TXN wTXN_OFFSET_COMMIT h0 n0 _ T202.heap _
              rw [e202]
              exact ⟨rfl, N202⟩
          · obtain ⟨cla204, Ara204, qa204, Sa204, Na204, Ha204, Ga204⟩ := And.left ⟨V140, trivial⟩
            have hina204 : ¬ (i143 < 0 ∨ cla204.slots.size ≤ (i143).toNatClampNeg) := inb_of Sa204 ⟨ig, il⟩
            have k205 : ∀ t, Steps p.tables e below (T140.setTop (mkF m 403 #[.val (.int p0), .val (.int p1), .val (.int p2), .val (.ref b7), .val (.ref b45), .val (.ref b85), .val (.int i143), .val (.int i144), .val (.int i196), .val (.int i196), .unset] [(.int hi), (.int i196)])) t → Steps p.tables e below (s₁.setTop (entryFrame m #[(.int p0), (.int p1), (.int p2)] maxLocals)) t := fun t kt => k199 t (by
              show Steps p.tables e below (T140.setTop (mkF m 393 #[.val (.int p0), .val (.int p1), .val (.int p2), .val (.ref b7), .val (.ref b45), .val (.ref b85), .val (.int i143), .val (.int i144), .val (.int i196), .val (.int i196), .unset] [(.int lo), (.int i196)])) _
              refine XS.icmpNo X140.here hx rfl (hb hby at_393) rfl (flt (hc200 : ¬ (i196 < lo))).1 ?_
              show Steps p.tables e below (T140.setTop (mkF m 396 #[.val (.int p0), .val (.int p1), .val (.int p2), .val (.ref b7), .val (.ref b45), .val (.ref b85), .val (.int i143), .val (.int i144), .val (.int i196), .val (.int i196), .unset] [])) _
              refine XS.iload X140.here hx rfl (hb hby at_396) rfl ?_
              show Steps p.tables e below (T140.setTop (mkF m 398 #[.val (.int p0), .val (.int p1), .val (.int p2), .val (.ref b7), .val (.ref b45), .val (.ref b85), .val (.int i143), .val (.int i144), .val (.int i196), .val (.int i196), .unset] [(.int i196)])) _
              refine XS.aload X140.here hx rfl (hb hby at_398) rfl rfl ?_
              show Steps p.tables e below (T140.setTop (mkF m 400 #[.val (.int p0), .val (.int p1), .val (.int p2), .val (.ref b7), .val (.ref b45), .val (.ref b85), .val (.int i143), .val (.int i144), .val (.int i196), .val (.int i196), .unset] [(.ref b85), (.int i196)])) _
              refine XS.iload X140.here hx rfl (hb hby at_400) rfl ?_
              show Steps p.tables e below (T140.setTop (mkF m 402 #[.val (.int p0), .val (.int p1), .val (.int p2), .val (.ref b7), .val (.ref b45), .val (.ref b85), .val (.int i143), .val (.int i144), .val (.int i196), .val (.int i196), .unset] [(.int i143), (.ref b85), (.int i196)])) _
              refine X140.iaload hx (j := i143) (v := (.int hi)) (by rw [e140]; exact Ara204.1) (State.isArrayOf_alike hZ.alike Ara204.2.1) Ara204.2.2 hina204 (Ha204.at hina204 rh) (g := (mkF m 402 #[.val (.int p0), .val (.int p1), .val (.int p2), .val (.ref b7), .val (.ref b45), .val (.ref b85), .val (.int i143), .val (.int i144), .val (.int i196), .val (.int i196), .unset] [(.int i143), (.ref b85), (.int i196)])) rfl rfl (hb hby at_402) _ ?_
              exact kt)
            by_cases hc206 : hi < i196
            · obtain ⟨cla207, Ara207, qa207, Sa207, Na207, Ha207, Ga207⟩ := And.left ⟨V141, trivial⟩
              have hina207 : ¬ (i143 < 0 ∨ cla207.slots.size ≤ (i143).toNatClampNeg) := inb_of Sa207 ⟨ig, il⟩
              obtain ⟨cq208, kq208, q208a, q208b, q208c⟩ := isOf hZ e140 Ei
              obtain ⟨_, _, ⟨T208, L208, k208, n208⟩, -, X208, ⟨Lc208, hQ208, l208, y208, z208⟩, st208⟩ := X140.virtualBack hx (y := (⟨"com/example/idem_log/idemlog/protocol/Api", "serves", "(S)Z"⟩ : MethodName)) (z := (⟨"com/example/idem_log/idemlog/protocol/Api", "serves", "(S)Z"⟩ : MethodName)) hown (mvT hZ (hw _ (List.mem_of_getElem? (i := 40) rfl))) (mvT hZ (hw _ (List.mem_of_getElem? (i := 41) rfl))) (notFace_of_selects (args := #[]) (mvT hZ (hw _ (List.mem_of_getElem? (i := 43) rfl)))) (mvT hZ (hw _ (List.mem_of_getElem? (i := 43) rfl))) (mvT hZ (hw _ (List.mem_of_getElem? (i := 42) rfl))) (by decide) (backOf (W := 0) (rm1 l Z a0 hw [] ai i196 lo hi h140 n0 (Nat.le_trans Z0 EX140.1) Fmin Fmax) hZ (hw _ (List.mem_of_getElem? (i := 44) rfl)) (hw _ (List.mem_of_getElem? (i := 3) rfl)) (by decide) (by decide)) q208a q208c (g := (mkF m 419 #[.val (.int p0), .val (.int p1), .val (.int p2), .val (.ref b7), .val (.ref b45), .val (.ref b85), .val (.int i143), .val (.int i144), .val (.int i196), .val (.int i196), .val (.int (0 : Int32))] [(.int i196), (.ref ai)])) rfl (by rw [hml]; rfl) (Steps.refl _) (argsL := [(.int i196)]) (rest := []) (lenOf pd_0 rfl) rfl (by show 2 * 0 + _ ≤ _; exact Nat.le_of_eq rfl) (hb hby at_419) (fun _ _ => ⟨rfl, e140, (by decide : 3 + 0 ≤ _), (by decide : 51 + 0 ≤ _)⟩)
              dsimp only [Pt.U, Pt.locs, Pt.cells, Pt.slots] at X208 l208 y208 z208 st208 hQ208
              rw [l208, y208, z208] at X208
              unfold Q1 at hQ208
              have k209 : ∀ t, Steps p.tables e below (T140.setTop (mkF m 419 #[.val (.int p0), .val (.int p1), .val (.int p2), .val (.ref b7), .val (.ref b45), .val (.ref b85), .val (.int i143), .val (.int i144), .val (.int i196), .val (.int i196), .val (.int (0 : Int32))] [(.int i196), (.ref ai)])) t → Steps p.tables e below (s₁.setTop (entryFrame m #[(.int p0), (.int p1), (.int p2)] maxLocals)) t := fun t kt => k205 t (by
                show Steps p.tables e below (T140.setTop (mkF m 403 #[.val (.int p0), .val (.int p1), .val (.int p2), .val (.ref b7), .val (.ref b45), .val (.ref b85), .val (.int i143), .val (.int i144), .val (.int i196), .val (.int i196), .unset] [(.int hi), (.int i196)])) _
                refine XS.icmpYes X140.here hx rfl (pc0 := 403) (pc' := 410) rfl (hb hby at_403) rfl (tlt (hc206 : hi < i196)).2.2.1 (by decide) (by decide) ?_
                show Steps p.tables e below (T140.setTop (mkF m 410 #[.val (.int p0), .val (.int p1), .val (.int p2), .val (.ref b7), .val (.ref b45), .val (.ref b85), .val (.int i143), .val (.int i144), .val (.int i196), .val (.int i196), .unset] [])) _
                refine XS.iconst X140.here hx rfl (hb hby at_410) ?_
                show Steps p.tables e below (T140.setTop (mkF m 411 #[.val (.int p0), .val (.int p1), .val (.int p2), .val (.ref b7), .val (.ref b45), .val (.ref b85), .val (.int i143), .val (.int i144), .val (.int i196), .val (.int i196), .unset] [(.int (0 : Int32))])) _
                refine XS.istore X140.here hx rfl (hb hby at_411) rfl (l' := #[.val (.int p0), .val (.int p1), .val (.int p2), .val (.ref b7), .val (.ref b45), .val (.ref b85), .val (.int i143), .val (.int i144), .val (.int i196), .val (.int i196), .val (.int (0 : Int32))]) rfl ?_
                show Steps p.tables e below (T140.setTop (mkF m 413 #[.val (.int p0), .val (.int p1), .val (.int p2), .val (.ref b7), .val (.ref b45), .val (.ref b85), .val (.int i143), .val (.int i144), .val (.int i196), .val (.int i196), .val (.int (0 : Int32))] [])) _
                refine XS.aloadN X140.here hx rfl (hb hby at_413) rfl rfl ?_
                show Steps p.tables e below (T140.setTop (mkF m 414 #[.val (.int p0), .val (.int p1), .val (.int p2), .val (.ref b7), .val (.ref b45), .val (.ref b85), .val (.int i143), .val (.int i144), .val (.int i196), .val (.int i196), .val (.int (0 : Int32))] [(.ref b7)])) _
                refine XS.iload X140.here hx rfl (hb hby at_414) rfl ?_
                show Steps p.tables e below (T140.setTop (mkF m 416 #[.val (.int p0), .val (.int p1), .val (.int p2), .val (.ref b7), .val (.ref b45), .val (.ref b85), .val (.int i143), .val (.int i144), .val (.int i196), .val (.int i196), .val (.int (0 : Int32))] [(.int i143), (.ref b7)])) _
                refine X140.aaload hx (j := i143) (v := (.ref ai)) (by rw [e140]; exact Ara207.1) (State.isArrayOf_alike hZ.alike Ara207.2.1) rfl Ara207.2.2 hina207 (Ha207.at hina207 ra) (g := (mkF m 416 #[.val (.int p0), .val (.int p1), .val (.int p2), .val (.ref b7), .val (.ref b45), .val (.ref b85), .val (.int i143), .val (.int i144), .val (.int i196), .val (.int i196), .val (.int (0 : Int32))] [(.int i143), (.ref b7)])) rfl rfl (hb hby at_416) _ ?_
                show Steps p.tables e below (T140.setTop (mkF m 417 #[.val (.int p0), .val (.int p1), .val (.int p2), .val (.ref b7), .val (.ref b45), .val (.ref b85), .val (.int i143), .val (.int i144), .val (.int i196), .val (.int i196), .val (.int (0 : Int32))] [(.ref ai)])) _
                refine XS.iload X140.here hx rfl (hb hby at_417) rfl ?_
                exact kt)
              rw [((by rw [f1, if_neg (hc200 : ¬ (i196 < lo)), if_pos (hc206 : hi < i196)]) : (f1 ai i196 lo hi) = (0 : Int32))] at hQ208
              obtain ⟨rfl, N208q, e208⟩ := hQ208
              have N208 := Fr.app N140' N208q
              obtain ⟨fs, hr, hrun, hended, hW, hsame⟩ := X208.leave (v := some (.int (1 : Int32))) (fun h => by rw [Bd.returns] at h; cases h)
              refine ⟨_, _, k209 _ ?_, hrun, hended, _, _, rfl, ?_, ⟨_, rfl⟩, hW, hsame.mono (by decide) (by decide)⟩
              · show Steps p.tables e below (T140.setTop (mkF m 419 #[.val (.int p0), .val (.int p1), .val (.int p2), .val (.ref b7), .val (.ref b45), .val (.ref b85), .val (.int i143), .val (.int i144), .val (.int i196), .val (.int i196), .val (.int (0 : Int32))] [(.int i196), (.ref ai)])) _
                refine st208.trans ?_
                show Steps p.tables e below (T208.setTop (mkF m 422 #[.val (.int p0), .val (.int p1), .val (.int p2), .val (.ref b7), .val (.ref b45), .val (.ref b85), .val (.int i143), .val (.int i144), .val (.int i196), .val (.int i196), .val (.int (0 : Int32))] [(.int (0 : Int32))])) _
                refine XS.iload X208.here hx rfl (hb hby at_422) rfl ?_
                show Steps p.tables e below (T208.setTop (mkF m 424 #[.val (.int p0), .val (.int p1), .val (.int p2), .val (.ref b7), .val (.ref b45), .val (.ref b85), .val (.int i143), .val (.int i144), .val (.int i196), .val (.int i196), .val (.int (0 : Int32))] [(.int (0 : Int32)), (.int (0 : Int32))])) _
                refine XS.icmpNo X208.here hx rfl (hb hby at_424) rfl (teq (rfl : (0 : Int32) = (0 : Int32))).2 ?_
                show Steps p.tables e below (T208.setTop (mkF m 427 #[.val (.int p0), .val (.int p1), .val (.int p2), .val (.ref b7), .val (.ref b45), .val (.ref b85), .val (.int i143), .val (.int i144), .val (.int i196), .val (.int i196), .val (.int (0 : Int32))] [])) _
                refine XS.iconst X208.here hx rfl (hb hby at_427) ?_
                show Steps p.tables e below (T208.setTop (mkF m 428 #[.val (.int p0), .val (.int p1), .val (.int p2), .val (.ref b7), .val (.ref b45), .val (.ref b85), .val (.int i143), .val (.int i144), .val (.int i196), .val (.int i196), .val (.int (0 : Int32))] [(.int (1 : Int32))])) _
                refine XS.goto X208.here hx rfl (pc0 := 428) (pc' := 432) rfl (hb hby at_428) (by decide) (by decide) ?_
                show Steps p.tables e below (T208.setTop (mkF m 432 #[.val (.int p0), .val (.int p1), .val (.int p2), .val (.ref b7), .val (.ref b45), .val (.ref b85), .val (.int i143), .val (.int i144), .val (.int i196), .val (.int i196), .val (.int (0 : Int32))] [(.int (1 : Int32))])) _
                exact retN X208 hx (t := .boolean) Bd.returns (by simp) (hb hby at_432) hr
              · show Q0 Z p0 p1 p2 wPRODUCE wFETCH wLIST_OFFSETS wMETADATA wOFFSET_COMMIT wOFFSET_FETCH wFIND_COORDINATOR wJOIN_GROUP wHEARTBEAT wLEAVE_GROUP wSYNC_GROUP wAPI_VERSIONS wINIT_PRODUCER_ID wADD_PARTITIONS_TO_TXN wADD_OFFSETS_TO_TXN wEND_TXN wTXN_OFFSET_COMMIT h0 n0 _ T208.heap _
                rw [e208]
                exact ⟨rfl, N208⟩
            · obtain ⟨cla210, Ara210, qa210, Sa210, Na210, Ha210, Ga210⟩ := And.left ⟨V141, trivial⟩
              have hina210 : ¬ (i143 < 0 ∨ cla210.slots.size ≤ (i143).toNatClampNeg) := inb_of Sa210 ⟨ig, il⟩
              obtain ⟨cq211, kq211, q211a, q211b, q211c⟩ := isOf hZ e140 Ei
              obtain ⟨_, _, ⟨T211, L211, k211, n211⟩, -, X211, ⟨Lc211, hQ211, l211, y211, z211⟩, st211⟩ := X140.virtualBack hx (y := (⟨"com/example/idem_log/idemlog/protocol/Api", "serves", "(S)Z"⟩ : MethodName)) (z := (⟨"com/example/idem_log/idemlog/protocol/Api", "serves", "(S)Z"⟩ : MethodName)) hown (mvT hZ (hw _ (List.mem_of_getElem? (i := 40) rfl))) (mvT hZ (hw _ (List.mem_of_getElem? (i := 41) rfl))) (notFace_of_selects (args := #[]) (mvT hZ (hw _ (List.mem_of_getElem? (i := 43) rfl)))) (mvT hZ (hw _ (List.mem_of_getElem? (i := 43) rfl))) (mvT hZ (hw _ (List.mem_of_getElem? (i := 42) rfl))) (by decide) (backOf (W := 0) (rm1 l Z a0 hw [] ai i196 lo hi h140 n0 (Nat.le_trans Z0 EX140.1) Fmin Fmax) hZ (hw _ (List.mem_of_getElem? (i := 44) rfl)) (hw _ (List.mem_of_getElem? (i := 3) rfl)) (by decide) (by decide)) q211a q211c (g := (mkF m 419 #[.val (.int p0), .val (.int p1), .val (.int p2), .val (.ref b7), .val (.ref b45), .val (.ref b85), .val (.int i143), .val (.int i144), .val (.int i196), .val (.int i196), .val (.int (1 : Int32))] [(.int i196), (.ref ai)])) rfl (by rw [hml]; rfl) (Steps.refl _) (argsL := [(.int i196)]) (rest := []) (lenOf pd_0 rfl) rfl (by show 2 * 0 + _ ≤ _; exact Nat.le_of_eq rfl) (hb hby at_419) (fun _ _ => ⟨rfl, e140, (by decide : 3 + 0 ≤ _), (by decide : 51 + 0 ≤ _)⟩)
              dsimp only [Pt.U, Pt.locs, Pt.cells, Pt.slots] at X211 l211 y211 z211 st211 hQ211
              rw [l211, y211, z211] at X211
              unfold Q1 at hQ211
              have k212 : ∀ t, Steps p.tables e below (T140.setTop (mkF m 419 #[.val (.int p0), .val (.int p1), .val (.int p2), .val (.ref b7), .val (.ref b45), .val (.ref b85), .val (.int i143), .val (.int i144), .val (.int i196), .val (.int i196), .val (.int (1 : Int32))] [(.int i196), (.ref ai)])) t → Steps p.tables e below (s₁.setTop (entryFrame m #[(.int p0), (.int p1), (.int p2)] maxLocals)) t := fun t kt => k205 t (by
                show Steps p.tables e below (T140.setTop (mkF m 403 #[.val (.int p0), .val (.int p1), .val (.int p2), .val (.ref b7), .val (.ref b45), .val (.ref b85), .val (.int i143), .val (.int i144), .val (.int i196), .val (.int i196), .unset] [(.int hi), (.int i196)])) _
                refine XS.icmpNo X140.here hx rfl (hb hby at_403) rfl (flt (hc206 : ¬ (hi < i196))).2.2.1 ?_
                show Steps p.tables e below (T140.setTop (mkF m 406 #[.val (.int p0), .val (.int p1), .val (.int p2), .val (.ref b7), .val (.ref b45), .val (.ref b85), .val (.int i143), .val (.int i144), .val (.int i196), .val (.int i196), .unset] [])) _
                refine XS.iconst X140.here hx rfl (hb hby at_406) ?_
                show Steps p.tables e below (T140.setTop (mkF m 407 #[.val (.int p0), .val (.int p1), .val (.int p2), .val (.ref b7), .val (.ref b45), .val (.ref b85), .val (.int i143), .val (.int i144), .val (.int i196), .val (.int i196), .unset] [(.int (1 : Int32))])) _
                refine XS.goto X140.here hx rfl (pc0 := 407) (pc' := 411) rfl (hb hby at_407) (by decide) (by decide) ?_
                show Steps p.tables e below (T140.setTop (mkF m 411 #[.val (.int p0), .val (.int p1), .val (.int p2), .val (.ref b7), .val (.ref b45), .val (.ref b85), .val (.int i143), .val (.int i144), .val (.int i196), .val (.int i196), .unset] [(.int (1 : Int32))])) _
                refine XS.istore X140.here hx rfl (hb hby at_411) rfl (l' := #[.val (.int p0), .val (.int p1), .val (.int p2), .val (.ref b7), .val (.ref b45), .val (.ref b85), .val (.int i143), .val (.int i144), .val (.int i196), .val (.int i196), .val (.int (1 : Int32))]) rfl ?_
                show Steps p.tables e below (T140.setTop (mkF m 413 #[.val (.int p0), .val (.int p1), .val (.int p2), .val (.ref b7), .val (.ref b45), .val (.ref b85), .val (.int i143), .val (.int i144), .val (.int i196), .val (.int i196), .val (.int (1 : Int32))] [])) _
                refine XS.aloadN X140.here hx rfl (hb hby at_413) rfl rfl ?_
                show Steps p.tables e below (T140.setTop (mkF m 414 #[.val (.int p0), .val (.int p1), .val (.int p2), .val (.ref b7), .val (.ref b45), .val (.ref b85), .val (.int i143), .val (.int i144), .val (.int i196), .val (.int i196), .val (.int (1 : Int32))] [(.ref b7)])) _
                refine XS.iload X140.here hx rfl (hb hby at_414) rfl ?_
                show Steps p.tables e below (T140.setTop (mkF m 416 #[.val (.int p0), .val (.int p1), .val (.int p2), .val (.ref b7), .val (.ref b45), .val (.ref b85), .val (.int i143), .val (.int i144), .val (.int i196), .val (.int i196), .val (.int (1 : Int32))] [(.int i143), (.ref b7)])) _
                refine X140.aaload hx (j := i143) (v := (.ref ai)) (by rw [e140]; exact Ara210.1) (State.isArrayOf_alike hZ.alike Ara210.2.1) rfl Ara210.2.2 hina210 (Ha210.at hina210 ra) (g := (mkF m 416 #[.val (.int p0), .val (.int p1), .val (.int p2), .val (.ref b7), .val (.ref b45), .val (.ref b85), .val (.int i143), .val (.int i144), .val (.int i196), .val (.int i196), .val (.int (1 : Int32))] [(.int i143), (.ref b7)])) rfl rfl (hb hby at_416) _ ?_
                show Steps p.tables e below (T140.setTop (mkF m 417 #[.val (.int p0), .val (.int p1), .val (.int p2), .val (.ref b7), .val (.ref b45), .val (.ref b85), .val (.int i143), .val (.int i144), .val (.int i196), .val (.int i196), .val (.int (1 : Int32))] [(.ref ai)])) _
                refine XS.iload X140.here hx rfl (hb hby at_417) rfl ?_
                exact kt)
              rw [((by rw [f1, if_neg (hc200 : ¬ (i196 < lo)), if_neg (hc206 : ¬ (hi < i196))]) : (f1 ai i196 lo hi) = (1 : Int32))] at hQ211
              obtain ⟨rfl, N211q, e211⟩ := hQ211
              have N211 := Fr.app N140' N211q
              obtain ⟨fs, hr, hrun, hended, hW, hsame⟩ := X211.leave (v := some (.int (1 : Int32))) (fun h => by rw [Bd.returns] at h; cases h)
              refine ⟨_, _, k212 _ ?_, hrun, hended, _, _, rfl, ?_, ⟨_, rfl⟩, hW, hsame.mono (by decide) (by decide)⟩
              · show Steps p.tables e below (T140.setTop (mkF m 419 #[.val (.int p0), .val (.int p1), .val (.int p2), .val (.ref b7), .val (.ref b45), .val (.ref b85), .val (.int i143), .val (.int i144), .val (.int i196), .val (.int i196), .val (.int (1 : Int32))] [(.int i196), (.ref ai)])) _
                refine st211.trans ?_
                show Steps p.tables e below (T211.setTop (mkF m 422 #[.val (.int p0), .val (.int p1), .val (.int p2), .val (.ref b7), .val (.ref b45), .val (.ref b85), .val (.int i143), .val (.int i144), .val (.int i196), .val (.int i196), .val (.int (1 : Int32))] [(.int (1 : Int32))])) _
                refine XS.iload X211.here hx rfl (hb hby at_422) rfl ?_
                show Steps p.tables e below (T211.setTop (mkF m 424 #[.val (.int p0), .val (.int p1), .val (.int p2), .val (.ref b7), .val (.ref b45), .val (.ref b85), .val (.int i143), .val (.int i144), .val (.int i196), .val (.int i196), .val (.int (1 : Int32))] [(.int (1 : Int32)), (.int (1 : Int32))])) _
                refine XS.icmpNo X211.here hx rfl (hb hby at_424) rfl (teq (rfl : (1 : Int32) = (1 : Int32))).2 ?_
                show Steps p.tables e below (T211.setTop (mkF m 427 #[.val (.int p0), .val (.int p1), .val (.int p2), .val (.ref b7), .val (.ref b45), .val (.ref b85), .val (.int i143), .val (.int i144), .val (.int i196), .val (.int i196), .val (.int (1 : Int32))] [])) _
                refine XS.iconst X211.here hx rfl (hb hby at_427) ?_
                show Steps p.tables e below (T211.setTop (mkF m 428 #[.val (.int p0), .val (.int p1), .val (.int p2), .val (.ref b7), .val (.ref b45), .val (.ref b85), .val (.int i143), .val (.int i144), .val (.int i196), .val (.int i196), .val (.int (1 : Int32))] [(.int (1 : Int32))])) _
                refine XS.goto X211.here hx rfl (pc0 := 428) (pc' := 432) rfl (hb hby at_428) (by decide) (by decide) ?_
                show Steps p.tables e below (T211.setTop (mkF m 432 #[.val (.int p0), .val (.int p1), .val (.int p2), .val (.ref b7), .val (.ref b45), .val (.ref b85), .val (.int i143), .val (.int i144), .val (.int i196), .val (.int i196), .val (.int (1 : Int32))] [(.int (1 : Int32))])) _
                exact retN X211 hx (t := .boolean) Bd.returns (by simp) (hb hby at_432) hr
              · show Q0 Z p0 p1 p2 wPRODUCE wFETCH wLIST_OFFSETS wMETADATA wOFFSET_COMMIT wOFFSET_FETCH wFIND_COORDINATOR wJOIN_GROUP wHEARTBEAT wLEAVE_GROUP wSYNC_GROUP wAPI_VERSIONS wINIT_PRODUCER_ID wADD_PARTITIONS_TO_TXN wADD_OFFSETS_TO_TXN wEND_TXN wTXN_OFFSET_COMMIT h0 n0 _ T211.heap _
                rw [e211]
                exact ⟨rfl, N211⟩
        · obtain ⟨i213, hi213⟩ : ∃ z, z = (p2.toInt16.toInt32) := ⟨_, rfl⟩
          have hl214 : (i213.toInt16.toInt32) = i213 := by rw [hi213]; simp
          obtain ⟨cla215, Ara215, qa215, Sa215, Na215, Ha215, Ga215⟩ := And.left ⟨V142, trivial⟩
          have hina215 : ¬ (i143 < 0 ∨ cla215.slots.size ≤ (i143).toNatClampNeg) := inb_of Sa215 ⟨ig, il⟩
          have k216 : ∀ t, Steps p.tables e below (T140.setTop (mkF m 393 #[.val (.int p0), .val (.int p1), .val (.int p2), .val (.ref b7), .val (.ref b45), .val (.ref b85), .val (.int i143), .val (.int i144), .val (.int i213), .val (.int i213), .unset] [(.int lo), (.int i213)])) t → Steps p.tables e below (s₁.setTop (entryFrame m #[(.int p0), (.int p1), (.int p2)] maxLocals)) t := fun t kt => k193 t (by
            show Steps p.tables e below (T140.setTop (mkF m 362 #[.val (.int p0), .val (.int p1), .val (.int p2), .val (.ref b7), .val (.ref b45), .val (.ref b85), .val (.int i143), .val (.int i144), .unset, .unset, .unset] [(.int (3 : Int32)), (.int i144)])) _
            refine XS.icmpYes X140.here hx rfl (pc0 := 362) (pc' := 377) rfl (hb hby at_362) rfl (feq (hc194 : ¬ (i144 = (3 : Int32)))).2 (by decide) (by decide) ?_
            show Steps p.tables e below (T140.setTop (mkF m 377 #[.val (.int p0), .val (.int p1), .val (.int p2), .val (.ref b7), .val (.ref b45), .val (.ref b85), .val (.int i143), .val (.int i144), .unset, .unset, .unset] [])) _
            refine XS.iloadN X140.here hx rfl (hb hby at_377) rfl ?_
            show Steps p.tables e below (T140.setTop (mkF m 378 #[.val (.int p0), .val (.int p1), .val (.int p2), .val (.ref b7), .val (.ref b45), .val (.ref b85), .val (.int i143), .val (.int i144), .unset, .unset, .unset] [(.int p2)])) _
            refine XS.i2s X140.here hx rfl (hb hby at_378) rfl ?_
            rw [← hi213]
            show Steps p.tables e below (T140.setTop (mkF m 379 #[.val (.int p0), .val (.int p1), .val (.int p2), .val (.ref b7), .val (.ref b45), .val (.ref b85), .val (.int i143), .val (.int i144), .unset, .unset, .unset] [(.int i213)])) _
            refine XS.istore X140.here hx rfl (hb hby at_379) rfl (l' := #[.val (.int p0), .val (.int p1), .val (.int p2), .val (.ref b7), .val (.ref b45), .val (.ref b85), .val (.int i143), .val (.int i144), .val (.int i213), .unset, .unset]) rfl ?_
            show Steps p.tables e below (T140.setTop (mkF m 381 #[.val (.int p0), .val (.int p1), .val (.int p2), .val (.ref b7), .val (.ref b45), .val (.ref b85), .val (.int i143), .val (.int i144), .val (.int i213), .unset, .unset] [])) _
            refine XS.iload X140.here hx rfl (hb hby at_381) rfl ?_
            show Steps p.tables e below (T140.setTop (mkF m 383 #[.val (.int p0), .val (.int p1), .val (.int p2), .val (.ref b7), .val (.ref b45), .val (.ref b85), .val (.int i143), .val (.int i144), .val (.int i213), .unset, .unset] [(.int i213)])) _
            refine XS.i2s X140.here hx rfl (hb hby at_383) rfl ?_
            rw [hl214]
            show Steps p.tables e below (T140.setTop (mkF m 384 #[.val (.int p0), .val (.int p1), .val (.int p2), .val (.ref b7), .val (.ref b45), .val (.ref b85), .val (.int i143), .val (.int i144), .val (.int i213), .unset, .unset] [(.int i213)])) _
            refine XS.istore X140.here hx rfl (hb hby at_384) rfl (l' := #[.val (.int p0), .val (.int p1), .val (.int p2), .val (.ref b7), .val (.ref b45), .val (.ref b85), .val (.int i143), .val (.int i144), .val (.int i213), .val (.int i213), .unset]) rfl ?_
            show Steps p.tables e below (T140.setTop (mkF m 386 #[.val (.int p0), .val (.int p1), .val (.int p2), .val (.ref b7), .val (.ref b45), .val (.ref b85), .val (.int i143), .val (.int i144), .val (.int i213), .val (.int i213), .unset] [])) _
            refine XS.iload X140.here hx rfl (hb hby at_386) rfl ?_
            show Steps p.tables e below (T140.setTop (mkF m 388 #[.val (.int p0), .val (.int p1), .val (.int p2), .val (.ref b7), .val (.ref b45), .val (.ref b85), .val (.int i143), .val (.int i144), .val (.int i213), .val (.int i213), .unset] [(.int i213)])) _
            refine XS.aload X140.here hx rfl (hb hby at_388) rfl rfl ?_
            show Steps p.tables e below (T140.setTop (mkF m 390 #[.val (.int p0), .val (.int p1), .val (.int p2), .val (.ref b7), .val (.ref b45), .val (.ref b85), .val (.int i143), .val (.int i144), .val (.int i213), .val (.int i213), .unset] [(.ref b45), (.int i213)])) _
            refine XS.iload X140.here hx rfl (hb hby at_390) rfl ?_
            show Steps p.tables e below (T140.setTop (mkF m 392 #[.val (.int p0), .val (.int p1), .val (.int p2), .val (.ref b7), .val (.ref b45), .val (.ref b85), .val (.int i143), .val (.int i144), .val (.int i213), .val (.int i213), .unset] [(.int i143), (.ref b45), (.int i213)])) _
            refine X140.iaload hx (j := i143) (v := (.int lo)) (by rw [e140]; exact Ara215.1) (State.isArrayOf_alike hZ.alike Ara215.2.1) Ara215.2.2 hina215 (Ha215.at hina215 rl) (g := (mkF m 392 #[.val (.int p0), .val (.int p1), .val (.int p2), .val (.ref b7), .val (.ref b45), .val (.ref b85), .val (.int i143), .val (.int i144), .val (.int i213), .val (.int i213), .unset] [(.int i143), (.ref b45), (.int i213)])) rfl rfl (hb hby at_392) _ ?_
            exact kt)
          by_cases hc217 : i213 < lo
          · obtain ⟨cla218, Ara218, qa218, Sa218, Na218, Ha218, Ga218⟩ := And.left ⟨V141, trivial⟩
            have hina218 : ¬ (i143 < 0 ∨ cla218.slots.size ≤ (i143).toNatClampNeg) := inb_of Sa218 ⟨ig, il⟩
            obtain ⟨cq219, kq219, q219a, q219b, q219c⟩ := isOf hZ e140 Ei
            obtain ⟨_, _, ⟨T219, L219, k219, n219⟩, -, X219, ⟨Lc219, hQ219, l219, y219, z219⟩, st219⟩ := X140.virtualBack hx (y := (⟨"com/example/idem_log/idemlog/protocol/Api", "serves", "(S)Z"⟩ : MethodName)) (z := (⟨"com/example/idem_log/idemlog/protocol/Api", "serves", "(S)Z"⟩ : MethodName)) hown (mvT hZ (hw _ (List.mem_of_getElem? (i := 40) rfl))) (mvT hZ (hw _ (List.mem_of_getElem? (i := 41) rfl))) (notFace_of_selects (args := #[]) (mvT hZ (hw _ (List.mem_of_getElem? (i := 43) rfl)))) (mvT hZ (hw _ (List.mem_of_getElem? (i := 43) rfl))) (mvT hZ (hw _ (List.mem_of_getElem? (i := 42) rfl))) (by decide) (backOf (W := 0) (rm1 l Z a0 hw [] ai i213 lo hi h140 n0 (Nat.le_trans Z0 EX140.1) Fmin Fmax) hZ (hw _ (List.mem_of_getElem? (i := 44) rfl)) (hw _ (List.mem_of_getElem? (i := 3) rfl)) (by decide) (by decide)) q219a q219c (g := (mkF m 419 #[.val (.int p0), .val (.int p1), .val (.int p2), .val (.ref b7), .val (.ref b45), .val (.ref b85), .val (.int i143), .val (.int i144), .val (.int i213), .val (.int i213), .val (.int (0 : Int32))] [(.int i213), (.ref ai)])) rfl (by rw [hml]; rfl) (Steps.refl _) (argsL := [(.int i213)]) (rest := []) (lenOf pd_0 rfl) rfl (by show 2 * 0 + _ ≤ _; exact Nat.le_of_eq rfl) (hb hby at_419) (fun _ _ => ⟨rfl, e140, (by decide : 3 + 0 ≤ _), (by decide : 51 + 0 ≤ _)⟩)
            dsimp only [Pt.U, Pt.locs, Pt.cells, Pt.slots] at X219 l219 y219 z219 st219 hQ219
            rw [l219, y219, z219] at X219
            unfold Q1 at hQ219
            have k220 : ∀ t, Steps p.tables e below (T140.setTop (mkF m 419 #[.val (.int p0), .val (.int p1), .val (.int p2), .val (.ref b7), .val (.ref b45), .val (.ref b85), .val (.int i143), .val (.int i144), .val (.int i213), .val (.int i213), .val (.int (0 : Int32))] [(.int i213), (.ref ai)])) t → Steps p.tables e below (s₁.setTop (entryFrame m #[(.int p0), (.int p1), (.int p2)] maxLocals)) t := fun t kt => k216 t (by
              show Steps p.tables e below (T140.setTop (mkF m 393 #[.val (.int p0), .val (.int p1), .val (.int p2), .val (.ref b7), .val (.ref b45), .val (.ref b85), .val (.int i143), .val (.int i144), .val (.int i213), .val (.int i213), .unset] [(.int lo), (.int i213)])) _
              refine XS.icmpYes X140.here hx rfl (pc0 := 393) (pc' := 410) rfl (hb hby at_393) rfl (tlt (hc217 : i213 < lo)).1 (by decide) (by decide) ?_
              show Steps p.tables e below (T140.setTop (mkF m 410 #[.val (.int p0), .val (.int p1), .val (.int p2), .val (.ref b7), .val (.ref b45), .val (.ref b85), .val (.int i143), .val (.int i144), .val (.int i213), .val (.int i213), .unset] [])) _
              refine XS.iconst X140.here hx rfl (hb hby at_410) ?_
              show Steps p.tables e below (T140.setTop (mkF m 411 #[.val (.int p0), .val (.int p1), .val (.int p2), .val (.ref b7), .val (.ref b45), .val (.ref b85), .val (.int i143), .val (.int i144), .val (.int i213), .val (.int i213), .unset] [(.int (0 : Int32))])) _
              refine XS.istore X140.here hx rfl (hb hby at_411) rfl (l' := #[.val (.int p0), .val (.int p1), .val (.int p2), .val (.ref b7), .val (.ref b45), .val (.ref b85), .val (.int i143), .val (.int i144), .val (.int i213), .val (.int i213), .val (.int (0 : Int32))]) rfl ?_
              show Steps p.tables e below (T140.setTop (mkF m 413 #[.val (.int p0), .val (.int p1), .val (.int p2), .val (.ref b7), .val (.ref b45), .val (.ref b85), .val (.int i143), .val (.int i144), .val (.int i213), .val (.int i213), .val (.int (0 : Int32))] [])) _
              refine XS.aloadN X140.here hx rfl (hb hby at_413) rfl rfl ?_
              show Steps p.tables e below (T140.setTop (mkF m 414 #[.val (.int p0), .val (.int p1), .val (.int p2), .val (.ref b7), .val (.ref b45), .val (.ref b85), .val (.int i143), .val (.int i144), .val (.int i213), .val (.int i213), .val (.int (0 : Int32))] [(.ref b7)])) _
              refine XS.iload X140.here hx rfl (hb hby at_414) rfl ?_
              show Steps p.tables e below (T140.setTop (mkF m 416 #[.val (.int p0), .val (.int p1), .val (.int p2), .val (.ref b7), .val (.ref b45), .val (.ref b85), .val (.int i143), .val (.int i144), .val (.int i213), .val (.int i213), .val (.int (0 : Int32))] [(.int i143), (.ref b7)])) _
              refine X140.aaload hx (j := i143) (v := (.ref ai)) (by rw [e140]; exact Ara218.1) (State.isArrayOf_alike hZ.alike Ara218.2.1) rfl Ara218.2.2 hina218 (Ha218.at hina218 ra) (g := (mkF m 416 #[.val (.int p0), .val (.int p1), .val (.int p2), .val (.ref b7), .val (.ref b45), .val (.ref b85), .val (.int i143), .val (.int i144), .val (.int i213), .val (.int i213), .val (.int (0 : Int32))] [(.int i143), (.ref b7)])) rfl rfl (hb hby at_416) _ ?_
              show Steps p.tables e below (T140.setTop (mkF m 417 #[.val (.int p0), .val (.int p1), .val (.int p2), .val (.ref b7), .val (.ref b45), .val (.ref b85), .val (.int i143), .val (.int i144), .val (.int i213), .val (.int i213), .val (.int (0 : Int32))] [(.ref ai)])) _
              refine XS.iload X140.here hx rfl (hb hby at_417) rfl ?_
              exact kt)
            rw [((by rw [f1, if_pos (hc217 : i213 < lo)]) : (f1 ai i213 lo hi) = (0 : Int32))] at hQ219
            obtain ⟨rfl, N219q, e219⟩ := hQ219
            have N219 := Fr.app N140' N219q
            obtain ⟨fs, hr, hrun, hended, hW, hsame⟩ := X219.leave (v := some (.int (1 : Int32))) (fun h => by rw [Bd.returns] at h; cases h)
            refine ⟨_, _, k220 _ ?_, hrun, hended, _, _, rfl, ?_, ⟨_, rfl⟩, hW, hsame.mono (by decide) (by decide)⟩
            · show Steps p.tables e below (T140.setTop (mkF m 419 #[.val (.int p0), .val (.int p1), .val (.int p2), .val (.ref b7), .val (.ref b45), .val (.ref b85), .val (.int i143), .val (.int i144), .val (.int i213), .val (.int i213), .val (.int (0 : Int32))] [(.int i213), (.ref ai)])) _
              refine st219.trans ?_
              show Steps p.tables e below (T219.setTop (mkF m 422 #[.val (.int p0), .val (.int p1), .val (.int p2), .val (.ref b7), .val (.ref b45), .val (.ref b85), .val (.int i143), .val (.int i144), .val (.int i213), .val (.int i213), .val (.int (0 : Int32))] [(.int (0 : Int32))])) _
              refine XS.iload X219.here hx rfl (hb hby at_422) rfl ?_
              show Steps p.tables e below (T219.setTop (mkF m 424 #[.val (.int p0), .val (.int p1), .val (.int p2), .val (.ref b7), .val (.ref b45), .val (.ref b85), .val (.int i143), .val (.int i144), .val (.int i213), .val (.int i213), .val (.int (0 : Int32))] [(.int (0 : Int32)), (.int (0 : Int32))])) _
              refine XS.icmpNo X219.here hx rfl (hb hby at_424) rfl (teq (rfl : (0 : Int32) = (0 : Int32))).2 ?_
              show Steps p.tables e below (T219.setTop (mkF m 427 #[.val (.int p0), .val (.int p1), .val (.int p2), .val (.ref b7), .val (.ref b45), .val (.ref b85), .val (.int i143), .val (.int i144), .val (.int i213), .val (.int i213), .val (.int (0 : Int32))] [])) _
              refine XS.iconst X219.here hx rfl (hb hby at_427) ?_
              show Steps p.tables e below (T219.setTop (mkF m 428 #[.val (.int p0), .val (.int p1), .val (.int p2), .val (.ref b7), .val (.ref b45), .val (.ref b85), .val (.int i143), .val (.int i144), .val (.int i213), .val (.int i213), .val (.int (0 : Int32))] [(.int (1 : Int32))])) _
              refine XS.goto X219.here hx rfl (pc0 := 428) (pc' := 432) rfl (hb hby at_428) (by decide) (by decide) ?_
              show Steps p.tables e below (T219.setTop (mkF m 432 #[.val (.int p0), .val (.int p1), .val (.int p2), .val (.ref b7), .val (.ref b45), .val (.ref b85), .val (.int i143), .val (.int i144), .val (.int i213), .val (.int i213), .val (.int (0 : Int32))] [(.int (1 : Int32))])) _
              exact retN X219 hx (t := .boolean) Bd.returns (by simp) (hb hby at_432) hr
            · show Q0 Z p0 p1 p2 wPRODUCE wFETCH wLIST_OFFSETS wMETADATA wOFFSET_COMMIT wOFFSET_FETCH wFIND_COORDINATOR wJOIN_GROUP wHEARTBEAT wLEAVE_GROUP wSYNC_GROUP wAPI_VERSIONS wINIT_PRODUCER_ID wADD_PARTITIONS_TO_TXN wADD_OFFSETS_TO_TXN wEND_TXN wTXN_OFFSET_COMMIT h0 n0 _ T219.heap _
              rw [e219]
              exact ⟨rfl, N219⟩
          · obtain ⟨cla221, Ara221, qa221, Sa221, Na221, Ha221, Ga221⟩ := And.left ⟨V140, trivial⟩
            have hina221 : ¬ (i143 < 0 ∨ cla221.slots.size ≤ (i143).toNatClampNeg) := inb_of Sa221 ⟨ig, il⟩
            have k222 : ∀ t, Steps p.tables e below (T140.setTop (mkF m 403 #[.val (.int p0), .val (.int p1), .val (.int p2), .val (.ref b7), .val (.ref b45), .val (.ref b85), .val (.int i143), .val (.int i144), .val (.int i213), .val (.int i213), .unset] [(.int hi), (.int i213)])) t → Steps p.tables e below (s₁.setTop (entryFrame m #[(.int p0), (.int p1), (.int p2)] maxLocals)) t := fun t kt => k216 t (by
              show Steps p.tables e below (T140.setTop (mkF m 393 #[.val (.int p0), .val (.int p1), .val (.int p2), .val (.ref b7), .val (.ref b45), .val (.ref b85), .val (.int i143), .val (.int i144), .val (.int i213), .val (.int i213), .unset] [(.int lo), (.int i213)])) _
              refine XS.icmpNo X140.here hx rfl (hb hby at_393) rfl (flt (hc217 : ¬ (i213 < lo))).1 ?_
              show Steps p.tables e below (T140.setTop (mkF m 396 #[.val (.int p0), .val (.int p1), .val (.int p2), .val (.ref b7), .val (.ref b45), .val (.ref b85), .val (.int i143), .val (.int i144), .val (.int i213), .val (.int i213), .unset] [])) _
              refine XS.iload X140.here hx rfl (hb hby at_396) rfl ?_
              show Steps p.tables e below (T140.setTop (mkF m 398 #[.val (.int p0), .val (.int p1), .val (.int p2), .val (.ref b7), .val (.ref b45), .val (.ref b85), .val (.int i143), .val (.int i144), .val (.int i213), .val (.int i213), .unset] [(.int i213)])) _
              refine XS.aload X140.here hx rfl (hb hby at_398) rfl rfl ?_
              show Steps p.tables e below (T140.setTop (mkF m 400 #[.val (.int p0), .val (.int p1), .val (.int p2), .val (.ref b7), .val (.ref b45), .val (.ref b85), .val (.int i143), .val (.int i144), .val (.int i213), .val (.int i213), .unset] [(.ref b85), (.int i213)])) _
              refine XS.iload X140.here hx rfl (hb hby at_400) rfl ?_
              show Steps p.tables e below (T140.setTop (mkF m 402 #[.val (.int p0), .val (.int p1), .val (.int p2), .val (.ref b7), .val (.ref b45), .val (.ref b85), .val (.int i143), .val (.int i144), .val (.int i213), .val (.int i213), .unset] [(.int i143), (.ref b85), (.int i213)])) _
              refine X140.iaload hx (j := i143) (v := (.int hi)) (by rw [e140]; exact Ara221.1) (State.isArrayOf_alike hZ.alike Ara221.2.1) Ara221.2.2 hina221 (Ha221.at hina221 rh) (g := (mkF m 402 #[.val (.int p0), .val (.int p1), .val (.int p2), .val (.ref b7), .val (.ref b45), .val (.ref b85), .val (.int i143), .val (.int i144), .val (.int i213), .val (.int i213), .unset] [(.int i143), (.ref b85), (.int i213)])) rfl rfl (hb hby at_402) _ ?_
              exact kt)
            by_cases hc223 : hi < i213
            · obtain ⟨cla224, Ara224, qa224, Sa224, Na224, Ha224, Ga224⟩ := And.left ⟨V141, trivial⟩
              have hina224 : ¬ (i143 < 0 ∨ cla224.slots.size ≤ (i143).toNatClampNeg) := inb_of Sa224 ⟨ig, il⟩
              obtain ⟨cq225, kq225, q225a, q225b, q225c⟩ := isOf hZ e140 Ei
              obtain ⟨_, _, ⟨T225, L225, k225, n225⟩, -, X225, ⟨Lc225, hQ225, l225, y225, z225⟩, st225⟩ := X140.virtualBack hx (y := (⟨"com/example/idem_log/idemlog/protocol/Api", "serves", "(S)Z"⟩ : MethodName)) (z := (⟨"com/example/idem_log/idemlog/protocol/Api", "serves", "(S)Z"⟩ : MethodName)) hown (mvT hZ (hw _ (List.mem_of_getElem? (i := 40) rfl))) (mvT hZ (hw _ (List.mem_of_getElem? (i := 41) rfl))) (notFace_of_selects (args := #[]) (mvT hZ (hw _ (List.mem_of_getElem? (i := 43) rfl)))) (mvT hZ (hw _ (List.mem_of_getElem? (i := 43) rfl))) (mvT hZ (hw _ (List.mem_of_getElem? (i := 42) rfl))) (by decide) (backOf (W := 0) (rm1 l Z a0 hw [] ai i213 lo hi h140 n0 (Nat.le_trans Z0 EX140.1) Fmin Fmax) hZ (hw _ (List.mem_of_getElem? (i := 44) rfl)) (hw _ (List.mem_of_getElem? (i := 3) rfl)) (by decide) (by decide)) q225a q225c (g := (mkF m 419 #[.val (.int p0), .val (.int p1), .val (.int p2), .val (.ref b7), .val (.ref b45), .val (.ref b85), .val (.int i143), .val (.int i144), .val (.int i213), .val (.int i213), .val (.int (0 : Int32))] [(.int i213), (.ref ai)])) rfl (by rw [hml]; rfl) (Steps.refl _) (argsL := [(.int i213)]) (rest := []) (lenOf pd_0 rfl) rfl (by show 2 * 0 + _ ≤ _; exact Nat.le_of_eq rfl) (hb hby at_419) (fun _ _ => ⟨rfl, e140, (by decide : 3 + 0 ≤ _), (by decide : 51 + 0 ≤ _)⟩)
              dsimp only [Pt.U, Pt.locs, Pt.cells, Pt.slots] at X225 l225 y225 z225 st225 hQ225
              rw [l225, y225, z225] at X225
              unfold Q1 at hQ225
              have k226 : ∀ t, Steps p.tables e below (T140.setTop (mkF m 419 #[.val (.int p0), .val (.int p1), .val (.int p2), .val (.ref b7), .val (.ref b45), .val (.ref b85), .val (.int i143), .val (.int i144), .val (.int i213), .val (.int i213), .val (.int (0 : Int32))] [(.int i213), (.ref ai)])) t → Steps p.tables e below (s₁.setTop (entryFrame m #[(.int p0), (.int p1), (.int p2)] maxLocals)) t := fun t kt => k222 t (by
                show Steps p.tables e below (T140.setTop (mkF m 403 #[.val (.int p0), .val (.int p1), .val (.int p2), .val (.ref b7), .val (.ref b45), .val (.ref b85), .val (.int i143), .val (.int i144), .val (.int i213), .val (.int i213), .unset] [(.int hi), (.int i213)])) _
                refine XS.icmpYes X140.here hx rfl (pc0 := 403) (pc' := 410) rfl (hb hby at_403) rfl (tlt (hc223 : hi < i213)).2.2.1 (by decide) (by decide) ?_
                show Steps p.tables e below (T140.setTop (mkF m 410 #[.val (.int p0), .val (.int p1), .val (.int p2), .val (.ref b7), .val (.ref b45), .val (.ref b85), .val (.int i143), .val (.int i144), .val (.int i213), .val (.int i213), .unset] [])) _
                refine XS.iconst X140.here hx rfl (hb hby at_410) ?_
                show Steps p.tables e below (T140.setTop (mkF m 411 #[.val (.int p0), .val (.int p1), .val (.int p2), .val (.ref b7), .val (.ref b45), .val (.ref b85), .val (.int i143), .val (.int i144), .val (.int i213), .val (.int i213), .unset] [(.int (0 : Int32))])) _
                refine XS.istore X140.here hx rfl (hb hby at_411) rfl (l' := #[.val (.int p0), .val (.int p1), .val (.int p2), .val (.ref b7), .val (.ref b45), .val (.ref b85), .val (.int i143), .val (.int i144), .val (.int i213), .val (.int i213), .val (.int (0 : Int32))]) rfl ?_
                show Steps p.tables e below (T140.setTop (mkF m 413 #[.val (.int p0), .val (.int p1), .val (.int p2), .val (.ref b7), .val (.ref b45), .val (.ref b85), .val (.int i143), .val (.int i144), .val (.int i213), .val (.int i213), .val (.int (0 : Int32))] [])) _
                refine XS.aloadN X140.here hx rfl (hb hby at_413) rfl rfl ?_
                show Steps p.tables e below (T140.setTop (mkF m 414 #[.val (.int p0), .val (.int p1), .val (.int p2), .val (.ref b7), .val (.ref b45), .val (.ref b85), .val (.int i143), .val (.int i144), .val (.int i213), .val (.int i213), .val (.int (0 : Int32))] [(.ref b7)])) _
                refine XS.iload X140.here hx rfl (hb hby at_414) rfl ?_
                show Steps p.tables e below (T140.setTop (mkF m 416 #[.val (.int p0), .val (.int p1), .val (.int p2), .val (.ref b7), .val (.ref b45), .val (.ref b85), .val (.int i143), .val (.int i144), .val (.int i213), .val (.int i213), .val (.int (0 : Int32))] [(.int i143), (.ref b7)])) _
                refine X140.aaload hx (j := i143) (v := (.ref ai)) (by rw [e140]; exact Ara224.1) (State.isArrayOf_alike hZ.alike Ara224.2.1) rfl Ara224.2.2 hina224 (Ha224.at hina224 ra) (g := (mkF m 416 #[.val (.int p0), .val (.int p1), .val (.int p2), .val (.ref b7), .val (.ref b45), .val (.ref b85), .val (.int i143), .val (.int i144), .val (.int i213), .val (.int i213), .val (.int (0 : Int32))] [(.int i143), (.ref b7)])) rfl rfl (hb hby at_416) _ ?_
                show Steps p.tables e below (T140.setTop (mkF m 417 #[.val (.int p0), .val (.int p1), .val (.int p2), .val (.ref b7), .val (.ref b45), .val (.ref b85), .val (.int i143), .val (.int i144), .val (.int i213), .val (.int i213), .val (.int (0 : Int32))] [(.ref ai)])) _
                refine XS.iload X140.here hx rfl (hb hby at_417) rfl ?_
                exact kt)
              rw [((by rw [f1, if_neg (hc217 : ¬ (i213 < lo)), if_pos (hc223 : hi < i213)]) : (f1 ai i213 lo hi) = (0 : Int32))] at hQ225
              obtain ⟨rfl, N225q, e225⟩ := hQ225
              have N225 := Fr.app N140' N225q
              obtain ⟨fs, hr, hrun, hended, hW, hsame⟩ := X225.leave (v := some (.int (1 : Int32))) (fun h => by rw [Bd.returns] at h; cases h)
              refine ⟨_, _, k226 _ ?_, hrun, hended, _, _, rfl, ?_, ⟨_, rfl⟩, hW, hsame.mono (by decide) (by decide)⟩
              · show Steps p.tables e below (T140.setTop (mkF m 419 #[.val (.int p0), .val (.int p1), .val (.int p2), .val (.ref b7), .val (.ref b45), .val (.ref b85), .val (.int i143), .val (.int i144), .val (.int i213), .val (.int i213), .val (.int (0 : Int32))] [(.int i213), (.ref ai)])) _
                refine st225.trans ?_
                show Steps p.tables e below (T225.setTop (mkF m 422 #[.val (.int p0), .val (.int p1), .val (.int p2), .val (.ref b7), .val (.ref b45), .val (.ref b85), .val (.int i143), .val (.int i144), .val (.int i213), .val (.int i213), .val (.int (0 : Int32))] [(.int (0 : Int32))])) _
                refine XS.iload X225.here hx rfl (hb hby at_422) rfl ?_
                show Steps p.tables e below (T225.setTop (mkF m 424 #[.val (.int p0), .val (.int p1), .val (.int p2), .val (.ref b7), .val (.ref b45), .val (.ref b85), .val (.int i143), .val (.int i144), .val (.int i213), .val (.int i213), .val (.int (0 : Int32))] [(.int (0 : Int32)), (.int (0 : Int32))])) _
                refine XS.icmpNo X225.here hx rfl (hb hby at_424) rfl (teq (rfl : (0 : Int32) = (0 : Int32))).2 ?_
                show Steps p.tables e below (T225.setTop (mkF m 427 #[.val (.int p0), .val (.int p1), .val (.int p2), .val (.ref b7), .val (.ref b45), .val (.ref b85), .val (.int i143), .val (.int i144), .val (.int i213), .val (.int i213), .val (.int (0 : Int32))] [])) _
                refine XS.iconst X225.here hx rfl (hb hby at_427) ?_
                show Steps p.tables e below (T225.setTop (mkF m 428 #[.val (.int p0), .val (.int p1), .val (.int p2), .val (.ref b7), .val (.ref b45), .val (.ref b85), .val (.int i143), .val (.int i144), .val (.int i213), .val (.int i213), .val (.int (0 : Int32))] [(.int (1 : Int32))])) _
                refine XS.goto X225.here hx rfl (pc0 := 428) (pc' := 432) rfl (hb hby at_428) (by decide) (by decide) ?_
                show Steps p.tables e below (T225.setTop (mkF m 432 #[.val (.int p0), .val (.int p1), .val (.int p2), .val (.ref b7), .val (.ref b45), .val (.ref b85), .val (.int i143), .val (.int i144), .val (.int i213), .val (.int i213), .val (.int (0 : Int32))] [(.int (1 : Int32))])) _
                exact retN X225 hx (t := .boolean) Bd.returns (by simp) (hb hby at_432) hr
              · show Q0 Z p0 p1 p2 wPRODUCE wFETCH wLIST_OFFSETS wMETADATA wOFFSET_COMMIT wOFFSET_FETCH wFIND_COORDINATOR wJOIN_GROUP wHEARTBEAT wLEAVE_GROUP wSYNC_GROUP wAPI_VERSIONS wINIT_PRODUCER_ID wADD_PARTITIONS_TO_TXN wADD_OFFSETS_TO_TXN wEND_TXN wTXN_OFFSET_COMMIT h0 n0 _ T225.heap _
                rw [e225]
                exact ⟨rfl, N225⟩
            · obtain ⟨cla227, Ara227, qa227, Sa227, Na227, Ha227, Ga227⟩ := And.left ⟨V141, trivial⟩
              have hina227 : ¬ (i143 < 0 ∨ cla227.slots.size ≤ (i143).toNatClampNeg) := inb_of Sa227 ⟨ig, il⟩
              obtain ⟨cq228, kq228, q228a, q228b, q228c⟩ := isOf hZ e140 Ei
              obtain ⟨_, _, ⟨T228, L228, k228, n228⟩, -, X228, ⟨Lc228, hQ228, l228, y228, z228⟩, st228⟩ := X140.virtualBack hx (y := (⟨"com/example/idem_log/idemlog/protocol/Api", "serves", "(S)Z"⟩ : MethodName)) (z := (⟨"com/example/idem_log/idemlog/protocol/Api", "serves", "(S)Z"⟩ : MethodName)) hown (mvT hZ (hw _ (List.mem_of_getElem? (i := 40) rfl))) (mvT hZ (hw _ (List.mem_of_getElem? (i := 41) rfl))) (notFace_of_selects (args := #[]) (mvT hZ (hw _ (List.mem_of_getElem? (i := 43) rfl)))) (mvT hZ (hw _ (List.mem_of_getElem? (i := 43) rfl))) (mvT hZ (hw _ (List.mem_of_getElem? (i := 42) rfl))) (by decide) (backOf (W := 0) (rm1 l Z a0 hw [] ai i213 lo hi h140 n0 (Nat.le_trans Z0 EX140.1) Fmin Fmax) hZ (hw _ (List.mem_of_getElem? (i := 44) rfl)) (hw _ (List.mem_of_getElem? (i := 3) rfl)) (by decide) (by decide)) q228a q228c (g := (mkF m 419 #[.val (.int p0), .val (.int p1), .val (.int p2), .val (.ref b7), .val (.ref b45), .val (.ref b85), .val (.int i143), .val (.int i144), .val (.int i213), .val (.int i213), .val (.int (1 : Int32))] [(.int i213), (.ref ai)])) rfl (by rw [hml]; rfl) (Steps.refl _) (argsL := [(.int i213)]) (rest := []) (lenOf pd_0 rfl) rfl (by show 2 * 0 + _ ≤ _; exact Nat.le_of_eq rfl) (hb hby at_419) (fun _ _ => ⟨rfl, e140, (by decide : 3 + 0 ≤ _), (by decide : 51 + 0 ≤ _)⟩)
              dsimp only [Pt.U, Pt.locs, Pt.cells, Pt.slots] at X228 l228 y228 z228 st228 hQ228
              rw [l228, y228, z228] at X228
              unfold Q1 at hQ228
              have k229 : ∀ t, Steps p.tables e below (T140.setTop (mkF m 419 #[.val (.int p0), .val (.int p1), .val (.int p2), .val (.ref b7), .val (.ref b45), .val (.ref b85), .val (.int i143), .val (.int i144), .val (.int i213), .val (.int i213), .val (.int (1 : Int32))] [(.int i213), (.ref ai)])) t → Steps p.tables e below (s₁.setTop (entryFrame m #[(.int p0), (.int p1), (.int p2)] maxLocals)) t := fun t kt => k222 t (by
                show Steps p.tables e below (T140.setTop (mkF m 403 #[.val (.int p0), .val (.int p1), .val (.int p2), .val (.ref b7), .val (.ref b45), .val (.ref b85), .val (.int i143), .val (.int i144), .val (.int i213), .val (.int i213), .unset] [(.int hi), (.int i213)])) _
                refine XS.icmpNo X140.here hx rfl (hb hby at_403) rfl (flt (hc223 : ¬ (hi < i213))).2.2.1 ?_
                show Steps p.tables e below (T140.setTop (mkF m 406 #[.val (.int p0), .val (.int p1), .val (.int p2), .val (.ref b7), .val (.ref b45), .val (.ref b85), .val (.int i143), .val (.int i144), .val (.int i213), .val (.int i213), .unset] [])) _
                refine XS.iconst X140.here hx rfl (hb hby at_406) ?_
                show Steps p.tables e below (T140.setTop (mkF m 407 #[.val (.int p0), .val (.int p1), .val (.int p2), .val (.ref b7), .val (.ref b45), .val (.ref b85), .val (.int i143), .val (.int i144), .val (.int i213), .val (.int i213), .unset] [(.int (1 : Int32))])) _
                refine XS.goto X140.here hx rfl (pc0 := 407) (pc' := 411) rfl (hb hby at_407) (by decide) (by decide) ?_
                show Steps p.tables e below (T140.setTop (mkF m 411 #[.val (.int p0), .val (.int p1), .val (.int p2), .val (.ref b7), .val (.ref b45), .val (.ref b85), .val (.int i143), .val (.int i144), .val (.int i213), .val (.int i213), .unset] [(.int (1 : Int32))])) _
                refine XS.istore X140.here hx rfl (hb hby at_411) rfl (l' := #[.val (.int p0), .val (.int p1), .val (.int p2), .val (.ref b7), .val (.ref b45), .val (.ref b85), .val (.int i143), .val (.int i144), .val (.int i213), .val (.int i213), .val (.int (1 : Int32))]) rfl ?_
                show Steps p.tables e below (T140.setTop (mkF m 413 #[.val (.int p0), .val (.int p1), .val (.int p2), .val (.ref b7), .val (.ref b45), .val (.ref b85), .val (.int i143), .val (.int i144), .val (.int i213), .val (.int i213), .val (.int (1 : Int32))] [])) _
                refine XS.aloadN X140.here hx rfl (hb hby at_413) rfl rfl ?_
                show Steps p.tables e below (T140.setTop (mkF m 414 #[.val (.int p0), .val (.int p1), .val (.int p2), .val (.ref b7), .val (.ref b45), .val (.ref b85), .val (.int i143), .val (.int i144), .val (.int i213), .val (.int i213), .val (.int (1 : Int32))] [(.ref b7)])) _
                refine XS.iload X140.here hx rfl (hb hby at_414) rfl ?_
                show Steps p.tables e below (T140.setTop (mkF m 416 #[.val (.int p0), .val (.int p1), .val (.int p2), .val (.ref b7), .val (.ref b45), .val (.ref b85), .val (.int i143), .val (.int i144), .val (.int i213), .val (.int i213), .val (.int (1 : Int32))] [(.int i143), (.ref b7)])) _
                refine X140.aaload hx (j := i143) (v := (.ref ai)) (by rw [e140]; exact Ara227.1) (State.isArrayOf_alike hZ.alike Ara227.2.1) rfl Ara227.2.2 hina227 (Ha227.at hina227 ra) (g := (mkF m 416 #[.val (.int p0), .val (.int p1), .val (.int p2), .val (.ref b7), .val (.ref b45), .val (.ref b85), .val (.int i143), .val (.int i144), .val (.int i213), .val (.int i213), .val (.int (1 : Int32))] [(.int i143), (.ref b7)])) rfl rfl (hb hby at_416) _ ?_
                show Steps p.tables e below (T140.setTop (mkF m 417 #[.val (.int p0), .val (.int p1), .val (.int p2), .val (.ref b7), .val (.ref b45), .val (.ref b85), .val (.int i143), .val (.int i144), .val (.int i213), .val (.int i213), .val (.int (1 : Int32))] [(.ref ai)])) _
                refine XS.iload X140.here hx rfl (hb hby at_417) rfl ?_
                exact kt)
              rw [((by rw [f1, if_neg (hc217 : ¬ (i213 < lo)), if_neg (hc223 : ¬ (hi < i213))]) : (f1 ai i213 lo hi) = (1 : Int32))] at hQ228
              obtain ⟨rfl, N228q, e228⟩ := hQ228
              have N228 := Fr.app N140' N228q
              obtain ⟨fs, hr, hrun, hended, hW, hsame⟩ := X228.leave (v := some (.int (1 : Int32))) (fun h => by rw [Bd.returns] at h; cases h)
              refine ⟨_, _, k229 _ ?_, hrun, hended, _, _, rfl, ?_, ⟨_, rfl⟩, hW, hsame.mono (by decide) (by decide)⟩
              · show Steps p.tables e below (T140.setTop (mkF m 419 #[.val (.int p0), .val (.int p1), .val (.int p2), .val (.ref b7), .val (.ref b45), .val (.ref b85), .val (.int i143), .val (.int i144), .val (.int i213), .val (.int i213), .val (.int (1 : Int32))] [(.int i213), (.ref ai)])) _
                refine st228.trans ?_
                show Steps p.tables e below (T228.setTop (mkF m 422 #[.val (.int p0), .val (.int p1), .val (.int p2), .val (.ref b7), .val (.ref b45), .val (.ref b85), .val (.int i143), .val (.int i144), .val (.int i213), .val (.int i213), .val (.int (1 : Int32))] [(.int (1 : Int32))])) _
                refine XS.iload X228.here hx rfl (hb hby at_422) rfl ?_
                show Steps p.tables e below (T228.setTop (mkF m 424 #[.val (.int p0), .val (.int p1), .val (.int p2), .val (.ref b7), .val (.ref b45), .val (.ref b85), .val (.int i143), .val (.int i144), .val (.int i213), .val (.int i213), .val (.int (1 : Int32))] [(.int (1 : Int32)), (.int (1 : Int32))])) _
                refine XS.icmpNo X228.here hx rfl (hb hby at_424) rfl (teq (rfl : (1 : Int32) = (1 : Int32))).2 ?_
                show Steps p.tables e below (T228.setTop (mkF m 427 #[.val (.int p0), .val (.int p1), .val (.int p2), .val (.ref b7), .val (.ref b45), .val (.ref b85), .val (.int i143), .val (.int i144), .val (.int i213), .val (.int i213), .val (.int (1 : Int32))] [])) _
                refine XS.iconst X228.here hx rfl (hb hby at_427) ?_
                show Steps p.tables e below (T228.setTop (mkF m 428 #[.val (.int p0), .val (.int p1), .val (.int p2), .val (.ref b7), .val (.ref b45), .val (.ref b85), .val (.int i143), .val (.int i144), .val (.int i213), .val (.int i213), .val (.int (1 : Int32))] [(.int (1 : Int32))])) _
                refine XS.goto X228.here hx rfl (pc0 := 428) (pc' := 432) rfl (hb hby at_428) (by decide) (by decide) ?_
                show Steps p.tables e below (T228.setTop (mkF m 432 #[.val (.int p0), .val (.int p1), .val (.int p2), .val (.ref b7), .val (.ref b45), .val (.ref b85), .val (.int i143), .val (.int i144), .val (.int i213), .val (.int i213), .val (.int (1 : Int32))] [(.int (1 : Int32))])) _
                exact retN X228 hx (t := .boolean) Bd.returns (by simp) (hb hby at_432) hr
              · show Q0 Z p0 p1 p2 wPRODUCE wFETCH wLIST_OFFSETS wMETADATA wOFFSET_COMMIT wOFFSET_FETCH wFIND_COORDINATOR wJOIN_GROUP wHEARTBEAT wLEAVE_GROUP wSYNC_GROUP wAPI_VERSIONS wINIT_PRODUCER_ID wADD_PARTITIONS_TO_TXN wADD_OFFSETS_TO_TXN wEND_TXN wTXN_OFFSET_COMMIT h0 n0 _ T228.heap _
                rw [e228]
                exact ⟨rfl, N228⟩
set_option maxRecDepth 65536 in
set_option maxHeartbeats 40000000 in
theorem comes_1 {Post : Tables → Env → Array Value → State → Outcome → State → Prop} (hpost : ∀ tb e args s v u, (limb_1_1.after args s (.returned v) u = true ∧ limb_1_2.after args s (.returned v) u = true ∧ True) → FrameEnd s (.returned v) u (Jvm.fieldLocs frame_1_writes args s ++ Jvm.arrayLocs frame_1_arrays args s ++ Jvm.staticLocs frame_1_statics s) 16 192 → Post tb e args s (.returned v) u) :
    ArmFor flags0 classFile x code maxLocals ret World_1 tables_1 room_1 Calls_1 rest_1 Pre_1 Post := by
  intro l hfl _ _ p e ha hc hk s m args below hf hA hF happ hP
  obtain ⟨hcalls, hrest, hpre⟩ := hP
  obtain ⟨-, -, -, hnamed, -, -, -, hat⟩ := (Spec.applies_iff hf).mp happ
  obtain ⟨hg, hn⟩ := and_e (Cond.before_iff.mp (show (Jvm.Cond.and given_1 narrow_1).before args s = true from hpre))
  obtain ⟨gc, gr0⟩ := and_e hg
  obtain ⟨ga0, gr1⟩ := and_e gr0
  obtain ⟨ga1, ga2⟩ := and_e gr1
  obtain ⟨w0, w1, w2, rfl⟩ : ∃ w0 w1 w2 : Value, args = #[w0, w1, w2] := by
    have hs : args.size = 3 := by simpa [Cond.value, given_1] using gc
    obtain ⟨L⟩ := args
    match L, hs with
    | [w0, w1, w2], _ => exact ⟨w0, w1, w2, rfl⟩
  have hw := fun d (hd : d ∈ tables_1) => atoms_spec (ws := Jvm.Cond.code x code maxLocals ret :: tables_1) hat d (List.mem_cons_of_mem _ hd)
  have hfit : Fit s := fun {y c} hc i hi => by
    obtain ⟨ha, rfl⟩ := Array.getElem?_eq_some_iff.mp hc
    have q := List.all_eq_true.mp ((Array.all_eq_true_iff_forall_mem.mp hF) _ (Array.getElem_mem ha)) i (List.mem_range.mpr hi)
    simpa [Array.getElem?_eq_getElem hi] using q
  obtain ⟨i0, ei0⟩ := is_v ga0
  obtain rfl : w0 = (.int i0) := Option.some.inj ei0
  obtain ⟨i1, ei1⟩ := is_v ga1
  obtain rfl : w1 = (.int i1) := Option.some.inj ei1
  obtain ⟨i2, ei2⟩ := is_v ga2
  obtain rfl : w2 = (.int i2) := Option.some.inj ei2
  obtain ⟨nr0, hn0⟩ := and_e hn
  obtain ⟨nr1, hn1⟩ := and_e hn0
  obtain ⟨nr2, hn2⟩ := and_e hn1
  obtain ⟨nr3, hn3⟩ := and_e hn2
  obtain ⟨nr4, hn4⟩ := and_e hn3
  obtain ⟨nr5, hn5⟩ := and_e hn4
  obtain ⟨nr6, hn6⟩ := and_e hn5
  obtain ⟨nr7, hn7⟩ := and_e hn6
  obtain ⟨nr8, hn8⟩ := and_e hn7
  obtain ⟨nr9, hn9⟩ := and_e hn8
  obtain ⟨nr10, hn10⟩ := and_e hn9
  obtain ⟨nr11, hn11⟩ := and_e hn10
  obtain ⟨nr12, hn12⟩ := and_e hn11
  obtain ⟨nr13, hn13⟩ := and_e hn12
  obtain ⟨nr14, hn14⟩ := and_e hn13
  obtain ⟨nr15, hn15⟩ := and_e hn14
  obtain ⟨nr16, hn16⟩ := and_e hn15
  obtain ⟨nr17, hn17⟩ := and_e hn16
  obtain ⟨nr18, hn18⟩ := and_e hn17
  obtain ⟨nr19, hn19⟩ := and_e hn18
  obtain ⟨nr20, hn20⟩ := and_e hn19
  obtain ⟨nr21, hn21⟩ := and_e hn20
  obtain ⟨nr22, hn22⟩ := and_e hn21
  obtain ⟨nr23, hn23⟩ := and_e hn22
  obtain ⟨nr24, hn24⟩ := and_e hn23
  obtain ⟨nr25, hn25⟩ := and_e hn24
  obtain ⟨nr26, hn26⟩ := and_e hn25
  obtain ⟨nr27, hn27⟩ := and_e hn26
  obtain ⟨nr28, hn28⟩ := and_e hn27
  obtain ⟨nr29, hn29⟩ := and_e hn28
  obtain ⟨nr30, hn30⟩ := and_e hn29
  obtain ⟨nr31, hn31⟩ := and_e hn30
  obtain ⟨nr32, hn32⟩ := and_e hn31
  obtain ⟨nr33, hn33⟩ := and_e hn32
  obtain ⟨nr34, hn34⟩ := and_e hn33
  obtain ⟨nr35, hn35⟩ := and_e hn34
  obtain ⟨nr36, hn36⟩ := and_e hn35
  obtain ⟨nr37, hn37⟩ := and_e hn36
  obtain ⟨nr38, hn38⟩ := and_e hn37
  obtain ⟨nr39, hn39⟩ := and_e hn38
  obtain ⟨nr40, hn40⟩ := and_e hn39
  obtain ⟨nr41, hn41⟩ := and_e hn40
  obtain ⟨nr42, hn42⟩ := and_e hn41
  obtain ⟨nr43, hn43⟩ := and_e hn42
  obtain ⟨nr44, hn44⟩ := and_e hn43
  obtain ⟨nr45, hn45⟩ := and_e hn44
  obtain ⟨nr46, hn46⟩ := and_e hn45
  obtain ⟨nr47, hn47⟩ := and_e hn46
  obtain ⟨nr48, hn48⟩ := and_e hn47
  obtain ⟨nr49, nr50⟩ := and_e hn48
  obtain ⟨wPRODUCE, evwPRODUCE⟩ := exa_v nr0
  have SPRODUCE : Sta s s.heap "com/example/idem_log/idemlog/protocol/Api" "PRODUCE" "Lcom/example/idem_log/idemlog/protocol/Api;" (.ref wPRODUCE) := Sta.start evwPRODUCE (Or.inr ⟨(hw _ (List.mem_of_getElem? (i := 3) rfl)), (hw _ (List.mem_of_getElem? (i := 4) rfl))⟩)
  obtain ⟨wFETCH, evwFETCH⟩ := exa_v nr1
  have SFETCH : Sta s s.heap "com/example/idem_log/idemlog/protocol/Api" "FETCH" "Lcom/example/idem_log/idemlog/protocol/Api;" (.ref wFETCH) := Sta.start evwFETCH (Or.inr ⟨(hw _ (List.mem_of_getElem? (i := 3) rfl)), (hw _ (List.mem_of_getElem? (i := 7) rfl))⟩)
  obtain ⟨wLIST_OFFSETS, evwLIST_OFFSETS⟩ := exa_v nr2
  have SLIST_OFFSETS : Sta s s.heap "com/example/idem_log/idemlog/protocol/Api" "LIST_OFFSETS" "Lcom/example/idem_log/idemlog/protocol/Api;" (.ref wLIST_OFFSETS) := Sta.start evwLIST_OFFSETS (Or.inr ⟨(hw _ (List.mem_of_getElem? (i := 3) rfl)), (hw _ (List.mem_of_getElem? (i := 9) rfl))⟩)
  obtain ⟨wMETADATA, evwMETADATA⟩ := exa_v nr3
  have SMETADATA : Sta s s.heap "com/example/idem_log/idemlog/protocol/Api" "METADATA" "Lcom/example/idem_log/idemlog/protocol/Api;" (.ref wMETADATA) := Sta.start evwMETADATA (Or.inr ⟨(hw _ (List.mem_of_getElem? (i := 3) rfl)), (hw _ (List.mem_of_getElem? (i := 11) rfl))⟩)
  obtain ⟨wOFFSET_COMMIT, evwOFFSET_COMMIT⟩ := exa_v nr4
  have SOFFSET_COMMIT : Sta s s.heap "com/example/idem_log/idemlog/protocol/Api" "OFFSET_COMMIT" "Lcom/example/idem_log/idemlog/protocol/Api;" (.ref wOFFSET_COMMIT) := Sta.start evwOFFSET_COMMIT (Or.inr ⟨(hw _ (List.mem_of_getElem? (i := 3) rfl)), (hw _ (List.mem_of_getElem? (i := 13) rfl))⟩)
  obtain ⟨wOFFSET_FETCH, evwOFFSET_FETCH⟩ := exa_v nr5
  have SOFFSET_FETCH : Sta s s.heap "com/example/idem_log/idemlog/protocol/Api" "OFFSET_FETCH" "Lcom/example/idem_log/idemlog/protocol/Api;" (.ref wOFFSET_FETCH) := Sta.start evwOFFSET_FETCH (Or.inr ⟨(hw _ (List.mem_of_getElem? (i := 3) rfl)), (hw _ (List.mem_of_getElem? (i := 15) rfl))⟩)
  obtain ⟨wFIND_COORDINATOR, evwFIND_COORDINATOR⟩ := exa_v nr6
  have SFIND_COORDINATOR : Sta s s.heap "com/example/idem_log/idemlog/protocol/Api" "FIND_COORDINATOR" "Lcom/example/idem_log/idemlog/protocol/Api;" (.ref wFIND_COORDINATOR) := Sta.start evwFIND_COORDINATOR (Or.inr ⟨(hw _ (List.mem_of_getElem? (i := 3) rfl)), (hw _ (List.mem_of_getElem? (i := 17) rfl))⟩)
  obtain ⟨wJOIN_GROUP, evwJOIN_GROUP⟩ := exa_v nr7
  have SJOIN_GROUP : Sta s s.heap "com/example/idem_log/idemlog/protocol/Api" "JOIN_GROUP" "Lcom/example/idem_log/idemlog/protocol/Api;" (.ref wJOIN_GROUP) := Sta.start evwJOIN_GROUP (Or.inr ⟨(hw _ (List.mem_of_getElem? (i := 3) rfl)), (hw _ (List.mem_of_getElem? (i := 19) rfl))⟩)
  obtain ⟨wHEARTBEAT, evwHEARTBEAT⟩ := exa_v nr8
  have SHEARTBEAT : Sta s s.heap "com/example/idem_log/idemlog/protocol/Api" "HEARTBEAT" "Lcom/example/idem_log/idemlog/protocol/Api;" (.ref wHEARTBEAT) := Sta.start evwHEARTBEAT (Or.inr ⟨(hw _ (List.mem_of_getElem? (i := 3) rfl)), (hw _ (List.mem_of_getElem? (i := 21) rfl))⟩)
  obtain ⟨wLEAVE_GROUP, evwLEAVE_GROUP⟩ := exa_v nr9
  have SLEAVE_GROUP : Sta s s.heap "com/example/idem_log/idemlog/protocol/Api" "LEAVE_GROUP" "Lcom/example/idem_log/idemlog/protocol/Api;" (.ref wLEAVE_GROUP) := Sta.start evwLEAVE_GROUP (Or.inr ⟨(hw _ (List.mem_of_getElem? (i := 3) rfl)), (hw _ (List.mem_of_getElem? (i := 23) rfl))⟩)
  obtain ⟨wSYNC_GROUP, evwSYNC_GROUP⟩ := exa_v nr10
  have SSYNC_GROUP : Sta s s.heap "com/example/idem_log/idemlog/protocol/Api" "SYNC_GROUP" "Lcom/example/idem_log/idemlog/protocol/Api;" (.ref wSYNC_GROUP) := Sta.start evwSYNC_GROUP (Or.inr ⟨(hw _ (List.mem_of_getElem? (i := 3) rfl)), (hw _ (List.mem_of_getElem? (i := 25) rfl))⟩)
  obtain ⟨wAPI_VERSIONS, evwAPI_VERSIONS⟩ := exa_v nr11
  have SAPI_VERSIONS : Sta s s.heap "com/example/idem_log/idemlog/protocol/Api" "API_VERSIONS" "Lcom/example/idem_log/idemlog/protocol/Api;" (.ref wAPI_VERSIONS) := Sta.start evwAPI_VERSIONS (Or.inr ⟨(hw _ (List.mem_of_getElem? (i := 3) rfl)), (hw _ (List.mem_of_getElem? (i := 27) rfl))⟩)
  obtain ⟨wINIT_PRODUCER_ID, evwINIT_PRODUCER_ID⟩ := exa_v nr12
  have SINIT_PRODUCER_ID : Sta s s.heap "com/example/idem_log/idemlog/protocol/Api" "INIT_PRODUCER_ID" "Lcom/example/idem_log/idemlog/protocol/Api;" (.ref wINIT_PRODUCER_ID) := Sta.start evwINIT_PRODUCER_ID (Or.inr ⟨(hw _ (List.mem_of_getElem? (i := 3) rfl)), (hw _ (List.mem_of_getElem? (i := 29) rfl))⟩)
  obtain ⟨wADD_PARTITIONS_TO_TXN, evwADD_PARTITIONS_TO_TXN⟩ := exa_v nr13
  have SADD_PARTITIONS_TO_TXN : Sta s s.heap "com/example/idem_log/idemlog/protocol/Api" "ADD_PARTITIONS_TO_TXN" "Lcom/example/idem_log/idemlog/protocol/Api;" (.ref wADD_PARTITIONS_TO_TXN) := Sta.start evwADD_PARTITIONS_TO_TXN (Or.inr ⟨(hw _ (List.mem_of_getElem? (i := 3) rfl)), (hw _ (List.mem_of_getElem? (i := 31) rfl))⟩)
  obtain ⟨wADD_OFFSETS_TO_TXN, evwADD_OFFSETS_TO_TXN⟩ := exa_v nr14
  have SADD_OFFSETS_TO_TXN : Sta s s.heap "com/example/idem_log/idemlog/protocol/Api" "ADD_OFFSETS_TO_TXN" "Lcom/example/idem_log/idemlog/protocol/Api;" (.ref wADD_OFFSETS_TO_TXN) := Sta.start evwADD_OFFSETS_TO_TXN (Or.inr ⟨(hw _ (List.mem_of_getElem? (i := 3) rfl)), (hw _ (List.mem_of_getElem? (i := 33) rfl))⟩)
  obtain ⟨wEND_TXN, evwEND_TXN⟩ := exa_v nr15
  have SEND_TXN : Sta s s.heap "com/example/idem_log/idemlog/protocol/Api" "END_TXN" "Lcom/example/idem_log/idemlog/protocol/Api;" (.ref wEND_TXN) := Sta.start evwEND_TXN (Or.inr ⟨(hw _ (List.mem_of_getElem? (i := 3) rfl)), (hw _ (List.mem_of_getElem? (i := 35) rfl))⟩)
  obtain ⟨wTXN_OFFSET_COMMIT, evwTXN_OFFSET_COMMIT⟩ := exa_v nr16
  have STXN_OFFSET_COMMIT : Sta s s.heap "com/example/idem_log/idemlog/protocol/Api" "TXN_OFFSET_COMMIT" "Lcom/example/idem_log/idemlog/protocol/Api;" (.ref wTXN_OFFSET_COMMIT) := Sta.start evwTXN_OFFSET_COMMIT (Or.inr ⟨(hw _ (List.mem_of_getElem? (i := 3) rfl)), (hw _ (List.mem_of_getElem? (i := 37) rfl))⟩)
  have EPRODUCE : Exa s s.heap wPRODUCE "com/example/idem_log/idemlog/protocol/Api" := Exa.start evwPRODUCE nr0
  have EFETCH : Exa s s.heap wFETCH "com/example/idem_log/idemlog/protocol/Api" := Exa.start evwFETCH nr1
  have ELIST_OFFSETS : Exa s s.heap wLIST_OFFSETS "com/example/idem_log/idemlog/protocol/Api" := Exa.start evwLIST_OFFSETS nr2
  have EMETADATA : Exa s s.heap wMETADATA "com/example/idem_log/idemlog/protocol/Api" := Exa.start evwMETADATA nr3
  have EOFFSET_COMMIT : Exa s s.heap wOFFSET_COMMIT "com/example/idem_log/idemlog/protocol/Api" := Exa.start evwOFFSET_COMMIT nr4
  have EOFFSET_FETCH : Exa s s.heap wOFFSET_FETCH "com/example/idem_log/idemlog/protocol/Api" := Exa.start evwOFFSET_FETCH nr5
  have EFIND_COORDINATOR : Exa s s.heap wFIND_COORDINATOR "com/example/idem_log/idemlog/protocol/Api" := Exa.start evwFIND_COORDINATOR nr6
  have EJOIN_GROUP : Exa s s.heap wJOIN_GROUP "com/example/idem_log/idemlog/protocol/Api" := Exa.start evwJOIN_GROUP nr7
  have EHEARTBEAT : Exa s s.heap wHEARTBEAT "com/example/idem_log/idemlog/protocol/Api" := Exa.start evwHEARTBEAT nr8
  have ELEAVE_GROUP : Exa s s.heap wLEAVE_GROUP "com/example/idem_log/idemlog/protocol/Api" := Exa.start evwLEAVE_GROUP nr9
  have ESYNC_GROUP : Exa s s.heap wSYNC_GROUP "com/example/idem_log/idemlog/protocol/Api" := Exa.start evwSYNC_GROUP nr10
  have EAPI_VERSIONS : Exa s s.heap wAPI_VERSIONS "com/example/idem_log/idemlog/protocol/Api" := Exa.start evwAPI_VERSIONS nr11
  have EINIT_PRODUCER_ID : Exa s s.heap wINIT_PRODUCER_ID "com/example/idem_log/idemlog/protocol/Api" := Exa.start evwINIT_PRODUCER_ID nr12
  have EADD_PARTITIONS_TO_TXN : Exa s s.heap wADD_PARTITIONS_TO_TXN "com/example/idem_log/idemlog/protocol/Api" := Exa.start evwADD_PARTITIONS_TO_TXN nr13
  have EADD_OFFSETS_TO_TXN : Exa s s.heap wADD_OFFSETS_TO_TXN "com/example/idem_log/idemlog/protocol/Api" := Exa.start evwADD_OFFSETS_TO_TXN nr14
  have EEND_TXN : Exa s s.heap wEND_TXN "com/example/idem_log/idemlog/protocol/Api" := Exa.start evwEND_TXN nr15
  have ETXN_OFFSET_COMMIT : Exa s s.heap wTXN_OFFSET_COMMIT "com/example/idem_log/idemlog/protocol/Api" := Exa.start evwTXN_OFFSET_COMMIT nr16
  have FPRODUCE_minVersion : Fld s s.heap wPRODUCE "com/example/idem_log/idemlog/protocol/Api" "minVersion" "S" (.int (3 : Int32)) := own_fldI evwPRODUCE nr17
  have FPRODUCE_maxVersion : Fld s s.heap wPRODUCE "com/example/idem_log/idemlog/protocol/Api" "maxVersion" "S" (.int (7 : Int32)) := own_fldI evwPRODUCE nr18
  have FFETCH_minVersion : Fld s s.heap wFETCH "com/example/idem_log/idemlog/protocol/Api" "minVersion" "S" (.int (4 : Int32)) := own_fldI evwFETCH nr19
  have FAPI_VERSIONS_minVersion : Fld s s.heap wAPI_VERSIONS "com/example/idem_log/idemlog/protocol/Api" "minVersion" "S" (.int (3 : Int32)) := own_fldI evwAPI_VERSIONS nr20
  have FAPI_VERSIONS_maxVersion : Fld s s.heap wAPI_VERSIONS "com/example/idem_log/idemlog/protocol/Api" "maxVersion" "S" (.int (3 : Int32)) := own_fldI evwAPI_VERSIONS nr21
  have FHEARTBEAT_minVersion : Fld s s.heap wHEARTBEAT "com/example/idem_log/idemlog/protocol/Api" "minVersion" "S" (.int (3 : Int32)) := own_fldI evwHEARTBEAT nr22
  have FINIT_PRODUCER_ID_minVersion : Fld s s.heap wINIT_PRODUCER_ID "com/example/idem_log/idemlog/protocol/Api" "minVersion" "S" (.int (0 : Int32)) := own_fldI evwINIT_PRODUCER_ID nr23
  have FHEARTBEAT_maxVersion : Fld s s.heap wHEARTBEAT "com/example/idem_log/idemlog/protocol/Api" "maxVersion" "S" (.int (3 : Int32)) := own_fldI evwHEARTBEAT nr24
  have FADD_PARTITIONS_TO_TXN_minVersion : Fld s s.heap wADD_PARTITIONS_TO_TXN "com/example/idem_log/idemlog/protocol/Api" "minVersion" "S" (.int (0 : Int32)) := own_fldI evwADD_PARTITIONS_TO_TXN nr25
  have FADD_PARTITIONS_TO_TXN_maxVersion : Fld s s.heap wADD_PARTITIONS_TO_TXN "com/example/idem_log/idemlog/protocol/Api" "maxVersion" "S" (.int (0 : Int32)) := own_fldI evwADD_PARTITIONS_TO_TXN nr26
  have FMETADATA_minVersion : Fld s s.heap wMETADATA "com/example/idem_log/idemlog/protocol/Api" "minVersion" "S" (.int (4 : Int32)) := own_fldI evwMETADATA nr27
  have FSYNC_GROUP_minVersion : Fld s s.heap wSYNC_GROUP "com/example/idem_log/idemlog/protocol/Api" "minVersion" "S" (.int (3 : Int32)) := own_fldI evwSYNC_GROUP nr28
  have FSYNC_GROUP_maxVersion : Fld s s.heap wSYNC_GROUP "com/example/idem_log/idemlog/protocol/Api" "maxVersion" "S" (.int (3 : Int32)) := own_fldI evwSYNC_GROUP nr29
  have FTXN_OFFSET_COMMIT_minVersion : Fld s s.heap wTXN_OFFSET_COMMIT "com/example/idem_log/idemlog/protocol/Api" "minVersion" "S" (.int (3 : Int32)) := own_fldI evwTXN_OFFSET_COMMIT nr30
  have FTXN_OFFSET_COMMIT_maxVersion : Fld s s.heap wTXN_OFFSET_COMMIT "com/example/idem_log/idemlog/protocol/Api" "maxVersion" "S" (.int (3 : Int32)) := own_fldI evwTXN_OFFSET_COMMIT nr31
  have FFETCH_maxVersion : Fld s s.heap wFETCH "com/example/idem_log/idemlog/protocol/Api" "maxVersion" "S" (.int (11 : Int32)) := own_fldI evwFETCH nr32
  have FJOIN_GROUP_minVersion : Fld s s.heap wJOIN_GROUP "com/example/idem_log/idemlog/protocol/Api" "minVersion" "S" (.int (5 : Int32)) := own_fldI evwJOIN_GROUP nr33
  have FLIST_OFFSETS_minVersion : Fld s s.heap wLIST_OFFSETS "com/example/idem_log/idemlog/protocol/Api" "minVersion" "S" (.int (2 : Int32)) := own_fldI evwLIST_OFFSETS nr34
  have FLIST_OFFSETS_maxVersion : Fld s s.heap wLIST_OFFSETS "com/example/idem_log/idemlog/protocol/Api" "maxVersion" "S" (.int (2 : Int32)) := own_fldI evwLIST_OFFSETS nr35
  have FOFFSET_COMMIT_minVersion : Fld s s.heap wOFFSET_COMMIT "com/example/idem_log/idemlog/protocol/Api" "minVersion" "S" (.int (7 : Int32)) := own_fldI evwOFFSET_COMMIT nr36
  have FOFFSET_COMMIT_maxVersion : Fld s s.heap wOFFSET_COMMIT "com/example/idem_log/idemlog/protocol/Api" "maxVersion" "S" (.int (7 : Int32)) := own_fldI evwOFFSET_COMMIT nr37
  have FOFFSET_FETCH_minVersion : Fld s s.heap wOFFSET_FETCH "com/example/idem_log/idemlog/protocol/Api" "minVersion" "S" (.int (7 : Int32)) := own_fldI evwOFFSET_FETCH nr38
  have FOFFSET_FETCH_maxVersion : Fld s s.heap wOFFSET_FETCH "com/example/idem_log/idemlog/protocol/Api" "maxVersion" "S" (.int (7 : Int32)) := own_fldI evwOFFSET_FETCH nr39
  have FADD_OFFSETS_TO_TXN_minVersion : Fld s s.heap wADD_OFFSETS_TO_TXN "com/example/idem_log/idemlog/protocol/Api" "minVersion" "S" (.int (0 : Int32)) := own_fldI evwADD_OFFSETS_TO_TXN nr40
  have FADD_OFFSETS_TO_TXN_maxVersion : Fld s s.heap wADD_OFFSETS_TO_TXN "com/example/idem_log/idemlog/protocol/Api" "maxVersion" "S" (.int (0 : Int32)) := own_fldI evwADD_OFFSETS_TO_TXN nr41
  have FFIND_COORDINATOR_minVersion : Fld s s.heap wFIND_COORDINATOR "com/example/idem_log/idemlog/protocol/Api" "minVersion" "S" (.int (0 : Int32)) := own_fldI evwFIND_COORDINATOR nr42
  have FFIND_COORDINATOR_maxVersion : Fld s s.heap wFIND_COORDINATOR "com/example/idem_log/idemlog/protocol/Api" "maxVersion" "S" (.int (2 : Int32)) := own_fldI evwFIND_COORDINATOR nr43
  have FLEAVE_GROUP_minVersion : Fld s s.heap wLEAVE_GROUP "com/example/idem_log/idemlog/protocol/Api" "minVersion" "S" (.int (1 : Int32)) := own_fldI evwLEAVE_GROUP nr44
  have FLEAVE_GROUP_maxVersion : Fld s s.heap wLEAVE_GROUP "com/example/idem_log/idemlog/protocol/Api" "maxVersion" "S" (.int (1 : Int32)) := own_fldI evwLEAVE_GROUP nr45
  have FJOIN_GROUP_maxVersion : Fld s s.heap wJOIN_GROUP "com/example/idem_log/idemlog/protocol/Api" "maxVersion" "S" (.int (5 : Int32)) := own_fldI evwJOIN_GROUP nr46
  have FEND_TXN_minVersion : Fld s s.heap wEND_TXN "com/example/idem_log/idemlog/protocol/Api" "minVersion" "S" (.int (1 : Int32)) := own_fldI evwEND_TXN nr47
  have FEND_TXN_maxVersion : Fld s s.heap wEND_TXN "com/example/idem_log/idemlog/protocol/Api" "maxVersion" "S" (.int (1 : Int32)) := own_fldI evwEND_TXN nr48
  have FMETADATA_maxVersion : Fld s s.heap wMETADATA "com/example/idem_log/idemlog/protocol/Api" "maxVersion" "S" (.int (4 : Int32)) := own_fldI evwMETADATA nr49
  have FINIT_PRODUCER_ID_maxVersion : Fld s s.heap wINIT_PRODUCER_ID "com/example/idem_log/idemlog/protocol/Api" "maxVersion" "S" (.int (4 : Int32)) := own_fldI evwINIT_PRODUCER_ID nr50
  obtain ⟨n, o, h1, h2, h3, _, L, rfl, ⟨rfl, N⟩, hq⟩ := rm0 l s _ hw tables_1 i0 i1 i2 wPRODUCE wFETCH wLIST_OFFSETS wMETADATA wOFFSET_COMMIT wOFFSET_FETCH wFIND_COORDINATOR wJOIN_GROUP wHEARTBEAT wLEAVE_GROUP wSYNC_GROUP wAPI_VERSIONS wINIT_PRODUCER_ID wADD_PARTITIONS_TO_TXN wADD_OFFSETS_TO_TXN wEND_TXN wTXN_OFFSET_COMMIT s.heap s.heap.size (Nat.le_refl _) ⟨SPRODUCE, EPRODUCE, SFETCH, EFETCH, SLIST_OFFSETS, ELIST_OFFSETS, SMETADATA, EMETADATA, SOFFSET_COMMIT, EOFFSET_COMMIT, SOFFSET_FETCH, EOFFSET_FETCH, SFIND_COORDINATOR, EFIND_COORDINATOR, SJOIN_GROUP, EJOIN_GROUP, SHEARTBEAT, EHEARTBEAT, SLEAVE_GROUP, ELEAVE_GROUP, SSYNC_GROUP, ESYNC_GROUP, SAPI_VERSIONS, EAPI_VERSIONS, SINIT_PRODUCER_ID, EINIT_PRODUCER_ID, SADD_PARTITIONS_TO_TXN, EADD_PARTITIONS_TO_TXN, SADD_OFFSETS_TO_TXN, EADD_OFFSETS_TO_TXN, SEND_TXN, EEND_TXN, STXN_OFFSET_COMMIT, ETXN_OFFSET_COMMIT, FPRODUCE_minVersion, FPRODUCE_maxVersion, FFETCH_minVersion, FAPI_VERSIONS_minVersion, FAPI_VERSIONS_maxVersion, FHEARTBEAT_minVersion, FINIT_PRODUCER_ID_minVersion, FHEARTBEAT_maxVersion, FADD_PARTITIONS_TO_TXN_minVersion, FADD_PARTITIONS_TO_TXN_maxVersion, FMETADATA_minVersion, FSYNC_GROUP_minVersion, FSYNC_GROUP_maxVersion, FTXN_OFFSET_COMMIT_minVersion, FTXN_OFFSET_COMMIT_maxVersion, FFETCH_maxVersion, FJOIN_GROUP_minVersion, FLIST_OFFSETS_minVersion, FLIST_OFFSETS_maxVersion, FOFFSET_COMMIT_minVersion, FOFFSET_COMMIT_maxVersion, FOFFSET_FETCH_minVersion, FOFFSET_FETCH_maxVersion, FADD_OFFSETS_TO_TXN_minVersion, FADD_OFFSETS_TO_TXN_maxVersion, FFIND_COORDINATOR_minVersion, FFIND_COORDINATOR_maxVersion, FLEAVE_GROUP_minVersion, FLEAVE_GROUP_maxVersion, FJOIN_GROUP_maxVersion, FEND_TXN_minVersion, FEND_TXN_maxVersion, FMETADATA_maxVersion, FINIT_PRODUCER_ID_maxVersion, trivial⟩  p e ha hc hk s m _ below hf ((Spec.applies_iff_loose hf).mp happ).1 ⟨rfl, State.Warmed39.refl s, rfl⟩ trivial
  refine ⟨n, _, h1, h2, h3, hpost _ _ _ _ _ _ ⟨Cond.after_iff.mpr rfl, Cond.after_iff.mpr (eq_i res_at (Term.int_eval (1)) rfl), trivial⟩ ⟨hq.1, hq.2.1, (hq.2.2.sift fun y hy => Or.inr (N y hy)).mono (by decide) (by decide)⟩⟩
theorem main_1_1 : Claimed_1_1 := comes_1 fun _ _ _ _ _ _ h hF => ⟨h.1, hF⟩
theorem main_1_2 : Claimed_1_2 := comes_1 fun _ _ _ _ _ _ h hF => ⟨h.2.1, hF⟩
end Jvm.Pilot.@@N@@
namespace Jvm.Pilot.@@N@@
open Jvm Jvm.ClassFile Sem Op Lib Jvm.Free Jvm.Stand Jvm.Pilot.@@N@@.Jvm.D
/-! MADE BY PROGRAM (witnessworld.py) out of the Statement's table words and the real class files: 13 classes; the members and pool entries that the words name. The judged class is class 1, her method 1. -/
namespace start1
open Jvm.ClassFile
def u (s : String) : CpInfo := .utf8 (stringToUtf16 s)
/-- a pool by its gaps: so many unusable entries, then the entry; so many at the end -/
def gap : Nat → List CpInfo → List CpInfo
  | 0, r => r
  | n + 1, r => .unusable :: gap n r
def poolList (es : List (Nat × CpInfo)) (last : Nat) : List CpInfo := es.foldr (fun e r => gap e.1 (e.2 :: r)) (gap last [])
def pool (es : List (Nat × CpInfo)) (last : Nat) : Array CpInfo := ⟨poolList es last⟩
def fileOf (pool : Array CpInfo) (this : Nat) (attrs : Array Attribute := #[]) (ms : Array MethodInfo := #[]) (fl : Nat := 33) (sup : Nat := 0) (ifs : Array Nat := #[]) (fds : Array FieldInfo := #[]) : ClassFile where
  minorVersion := 0
  majorVersion := 65
  constantPool := pool
  accessFlags := fl
  thisClass := this
  superClass := sup
  interfaces := ifs
  fields := fds
  methods := ms
  attributes := attrs
def plain (name : String) (sup : Option ClassId) : Class where
  name := name
  kind := .ordinary
  loader := none
  accessFlags := 33
  super := sup
  interfaces := #[]
  cf := none
  fields := #[]
  methods := #[]
  instanceTypes := #[]
  staticTypes := #[]
  resolved := #[]
  callSites := []
  init := .initialized
  statics := none
  mirror := none

def pool0 : Array CpInfo := pool [(5, u "<init>"), (0, u "()V"), (1, .class_ 10), (1, u "java/lang/Object")] 113

def k0m0 : Method := { name := "<init>", desc := "()V", sig := { parameters := [], returnType := none }, accessFlags := 1, code := none }
/-- java/lang/Object -/
def k0 : Class := { plain "java/lang/Object" none with
  accessFlags := 33
  interfaces := #[]
  cf := some (fileOf pool0 8 #[] #[{ accessFlags := 1, nameIndex := 5, descriptorIndex := 6, attributes := #[] }] 33 0 #[] #[])
  fields := #[]
  methods := #[k0m0]
  instanceTypes := #[]
  staticTypes := #[]
  resolved := Array.replicate 124 none
  statics := none }

def pool1 : Array CpInfo := pool [(2, .class_ 4), (1, u "java/lang/Object"), (0, u "<init>"), (0, u "()V"), (0, .class_ 8), (0, u "com/example/idem_log/idemlog/protocol/Api"), (0, .fieldref 7 10), (0, .nameAndType 11 12), (0, u "PRODUCE"), (0, u "Lcom/example/idem_log/idemlog/protocol/Api;"), (0, .fieldref 7 14), (0, .nameAndType 15 12), (0, u "FETCH"), (0, .fieldref 7 17), (0, .nameAndType 18 12), (0, u "LIST_OFFSETS"), (0, .fieldref 7 20), (0, .nameAndType 21 12), (0, u "METADATA"), (0, .fieldref 7 23), (0, .nameAndType 24 12), (0, u "OFFSET_COMMIT"), (0, .fieldref 7 26), (0, .nameAndType 27 12), (0, u "OFFSET_FETCH"), (0, .fieldref 7 29), (0, .nameAndType 30 12), (0, u "FIND_COORDINATOR"), (0, .fieldref 7 32), (0, .nameAndType 33 12), (0, u "JOIN_GROUP"), (0, .fieldref 7 35), (0, .nameAndType 36 12), (0, u "HEARTBEAT"), (0, .fieldref 7 38), (0, .nameAndType 39 12), (0, u "LEAVE_GROUP"), (0, .fieldref 7 41), (0, .nameAndType 42 12), (0, u "SYNC_GROUP"), (0, .fieldref 7 44), (0, .nameAndType 45 12), (0, u "API_VERSIONS"), (0, .fieldref 7 47), (0, .nameAndType 48 12), (0, u "INIT_PRODUCER_ID"), (0, .fieldref 7 50), (0, .nameAndType 51 12), (0, u "ADD_PARTITIONS_TO_TXN"), (0, .fieldref 7 53), (0, .nameAndType 54 12), (0, u "ADD_OFFSETS_TO_TXN"), (0, .fieldref 7 56), (0, .nameAndType 57 12), (0, u "END_TXN"), (0, .fieldref 7 59), (0, .nameAndType 60 12), (0, u "TXN_OFFSET_COMMIT"), (0, .integer 2147483647), (0, .methodref 7 63), (0, .nameAndType 64 65), (0, u "serves"), (0, u "(S)Z"), (0, .class_ 67), (0, u "com/example/idem_log/idemlog/protocol/ApiServesPinLaw"), (2, u "law"), (0, u "(III)Z")] 7

def k1m0 : Method := { name := "<init>", desc := "()V", sig := { parameters := [], returnType := none }, accessFlags := 1, code := none }
def k1c1 : Code := { maxStack := 4, maxLocals := 11, code := code, exceptionTable := #[], attributes := #[] }
def k1m1 : Method := { name := "law", desc := "(III)Z", sig := { parameters := [.int, .int, .int], returnType := some .boolean }, accessFlags := 9, code := some k1c1 }
/-- com/example/idem_log/idemlog/protocol/ApiServesPinLaw -/
def k1 : Class := { plain "com/example/idem_log/idemlog/protocol/ApiServesPinLaw" (some 0) with
  accessFlags := 49
  interfaces := #[]
  cf := some (fileOf pool1 66 #[] #[{ accessFlags := 1, nameIndex := 5, descriptorIndex := 6, attributes := #[] }, { accessFlags := 9, nameIndex := 70, descriptorIndex := 71, attributes := #[] }] 49 2 #[] #[])
  fields := #[]
  methods := #[k1m0, k1m1]
  instanceTypes := #[]
  staticTypes := #[]
  resolved := Array.replicate 79 none
  statics := none }

def pool2 : Array CpInfo := pool [(1, .class_ 2), (0, u "java/lang/constant/Constable"), (0, .class_ 4), (0, u "java/lang/Object")] 6

/-- java/lang/constant/Constable -/
def k2 : Class := { plain "java/lang/constant/Constable" (some 0) with
  accessFlags := 1537
  interfaces := #[]
  cf := some (fileOf pool2 1 #[] #[] 1537 3 #[] #[])
  fields := #[]
  methods := #[]
  instanceTypes := #[]
  staticTypes := #[]
  resolved := Array.replicate 11 none
  statics := none }

def pool3 : Array CpInfo := pool [(1, .class_ 2), (0, u "java/lang/Comparable"), (0, .class_ 4), (0, u "java/lang/Object")] 7

/-- java/lang/Comparable -/
def k3 : Class := { plain "java/lang/Comparable" (some 0) with
  accessFlags := 1537
  interfaces := #[]
  cf := some (fileOf pool3 1 #[] #[] 1537 3 #[] #[])
  fields := #[]
  methods := #[]
  instanceTypes := #[]
  staticTypes := #[]
  resolved := Array.replicate 12 none
  statics := none }

def pool4 : Array CpInfo := pool [(1, .class_ 2), (0, u "java/io/Serializable"), (0, .class_ 4), (0, u "java/lang/Object")] 2

/-- java/io/Serializable -/
def k4 : Class := { plain "java/io/Serializable" (some 0) with
  accessFlags := 1537
  interfaces := #[]
  cf := some (fileOf pool4 1 #[] #[] 1537 3 #[] #[])
  fields := #[]
  methods := #[]
  instanceTypes := #[]
  staticTypes := #[]
  resolved := Array.replicate 7 none
  statics := none }

def pool5 : Array CpInfo := pool [(2, .class_ 4), (1, u "java/lang/Enum"), (0, u "name"), (0, u "Ljava/lang/String;"), (2, u "ordinal"), (0, u "I"), (1, .class_ 14), (1, u "java/lang/Object"), (4, u "hash"), (86, .class_ 108), (1, u "java/lang/Enum$EnumDesc"), (2, .class_ 112), (0, u "java/lang/constant/Constable"), (0, .class_ 114), (0, u "java/lang/Comparable"), (0, .class_ 116), (0, u "java/io/Serializable")] 87

/-- java/lang/Enum -/
def k5 : Class := { plain "java/lang/Enum" (some 0) with
  accessFlags := 1057
  interfaces := #[2, 3, 4]
  cf := some (fileOf pool5 2 #[.nestMembers #[106]] #[] 1057 12 #[111, 113, 115] #[{ accessFlags := 18, nameIndex := 5, descriptorIndex := 6, attributes := #[] }, { accessFlags := 18, nameIndex := 9, descriptorIndex := 10, attributes := #[] }, { accessFlags := 2, nameIndex := 19, descriptorIndex := 10, attributes := #[] }])
  fields := #[{ name := "name", type := (.object "java/lang/String"), accessFlags := 18, slot := 0, constantValue := 0 }, { name := "ordinal", type := .int, accessFlags := 18, slot := 1, constantValue := 0 }, { name := "hash", type := .int, accessFlags := 2, slot := 2, constantValue := 0 }]
  methods := #[]
  instanceTypes := #[(.object "java/lang/String"), .int, .int]
  staticTypes := #[]
  resolved := Array.replicate 204 none
  statics := none }

def pool6 : Array CpInfo := pool [(1, .class_ 2), (0, u "com/example/idem_log/idemlog/protocol/Api"), (2, u "PRODUCE"), (0, u "Lcom/example/idem_log/idemlog/protocol/Api;"), (2, u "FETCH"), (2, u "LIST_OFFSETS"), (2, u "METADATA"), (2, u "OFFSET_COMMIT"), (2, u "OFFSET_FETCH"), (2, u "FIND_COORDINATOR"), (2, u "JOIN_GROUP"), (2, u "HEARTBEAT"), (2, u "LEAVE_GROUP"), (2, u "SYNC_GROUP"), (2, u "API_VERSIONS"), (2, u "INIT_PRODUCER_ID"), (2, u "ADD_PARTITIONS_TO_TXN"), (2, u "ADD_OFFSETS_TO_TXN"), (2, u "END_TXN"), (2, u "TXN_OFFSET_COMMIT"), (2, u "$VALUES"), (0, u "[Lcom/example/idem_log/idemlog/protocol/Api;"), (6, .class_ 67), (1, u "java/lang/Enum"), (8, u "key"), (0, u "S"), (0, .fieldref 1 79), (0, .nameAndType 80 77), (0, u "minVersion"), (0, .fieldref 1 82), (0, .nameAndType 83 77), (0, u "maxVersion"), (2, u "firstFlexibleVersion"), (36, u "serves"), (0, u "(S)Z")] 6

def k6c0 : Code := { maxStack := 2, maxLocals := 2, code := prog_15_method_5_code, exceptionTable := #[], attributes := #[] }
def k6m0 : Method := { name := "serves", desc := "(S)Z", sig := { parameters := [.short], returnType := some .boolean }, accessFlags := 0, code := some k6c0 }
/-- com/example/idem_log/idemlog/protocol/Api -/
def k6 : Class := { plain "com/example/idem_log/idemlog/protocol/Api" (some 5) with
  accessFlags := 16432
  interfaces := #[]
  cf := some (fileOf pool6 1 #[] #[{ accessFlags := 0, nameIndex := 123, descriptorIndex := 124, attributes := #[] }] 16432 65 #[] #[{ accessFlags := 16409, nameIndex := 5, descriptorIndex := 6, attributes := #[] }, { accessFlags := 16409, nameIndex := 9, descriptorIndex := 6, attributes := #[] }, { accessFlags := 16409, nameIndex := 12, descriptorIndex := 6, attributes := #[] }, { accessFlags := 16409, nameIndex := 15, descriptorIndex := 6, attributes := #[] }, { accessFlags := 16409, nameIndex := 18, descriptorIndex := 6, attributes := #[] }, { accessFlags := 16409, nameIndex := 21, descriptorIndex := 6, attributes := #[] }, { accessFlags := 16409, nameIndex := 24, descriptorIndex := 6, attributes := #[] }, { accessFlags := 16409, nameIndex := 27, descriptorIndex := 6, attributes := #[] }, { accessFlags := 16409, nameIndex := 30, descriptorIndex := 6, attributes := #[] }, { accessFlags := 16409, nameIndex := 33, descriptorIndex := 6, attributes := #[] }, { accessFlags := 16409, nameIndex := 36, descriptorIndex := 6, attributes := #[] }, { accessFlags := 16409, nameIndex := 39, descriptorIndex := 6, attributes := #[] }, { accessFlags := 16409, nameIndex := 42, descriptorIndex := 6, attributes := #[] }, { accessFlags := 16409, nameIndex := 45, descriptorIndex := 6, attributes := #[] }, { accessFlags := 16409, nameIndex := 48, descriptorIndex := 6, attributes := #[] }, { accessFlags := 16409, nameIndex := 51, descriptorIndex := 6, attributes := #[] }, { accessFlags := 16409, nameIndex := 54, descriptorIndex := 6, attributes := #[] }, { accessFlags := 16, nameIndex := 76, descriptorIndex := 77, attributes := #[] }, { accessFlags := 16, nameIndex := 80, descriptorIndex := 77, attributes := #[] }, { accessFlags := 16, nameIndex := 83, descriptorIndex := 77, attributes := #[] }, { accessFlags := 18, nameIndex := 86, descriptorIndex := 77, attributes := #[] }, { accessFlags := 4122, nameIndex := 57, descriptorIndex := 58, attributes := #[] }])
  fields := #[{ name := "PRODUCE", type := (.object "com/example/idem_log/idemlog/protocol/Api"), accessFlags := 16409, slot := 0, constantValue := 0 }, { name := "FETCH", type := (.object "com/example/idem_log/idemlog/protocol/Api"), accessFlags := 16409, slot := 1, constantValue := 0 }, { name := "LIST_OFFSETS", type := (.object "com/example/idem_log/idemlog/protocol/Api"), accessFlags := 16409, slot := 2, constantValue := 0 }, { name := "METADATA", type := (.object "com/example/idem_log/idemlog/protocol/Api"), accessFlags := 16409, slot := 3, constantValue := 0 }, { name := "OFFSET_COMMIT", type := (.object "com/example/idem_log/idemlog/protocol/Api"), accessFlags := 16409, slot := 4, constantValue := 0 }, { name := "OFFSET_FETCH", type := (.object "com/example/idem_log/idemlog/protocol/Api"), accessFlags := 16409, slot := 5, constantValue := 0 }, { name := "FIND_COORDINATOR", type := (.object "com/example/idem_log/idemlog/protocol/Api"), accessFlags := 16409, slot := 6, constantValue := 0 }, { name := "JOIN_GROUP", type := (.object "com/example/idem_log/idemlog/protocol/Api"), accessFlags := 16409, slot := 7, constantValue := 0 }, { name := "HEARTBEAT", type := (.object "com/example/idem_log/idemlog/protocol/Api"), accessFlags := 16409, slot := 8, constantValue := 0 }, { name := "LEAVE_GROUP", type := (.object "com/example/idem_log/idemlog/protocol/Api"), accessFlags := 16409, slot := 9, constantValue := 0 }, { name := "SYNC_GROUP", type := (.object "com/example/idem_log/idemlog/protocol/Api"), accessFlags := 16409, slot := 10, constantValue := 0 }, { name := "API_VERSIONS", type := (.object "com/example/idem_log/idemlog/protocol/Api"), accessFlags := 16409, slot := 11, constantValue := 0 }, { name := "INIT_PRODUCER_ID", type := (.object "com/example/idem_log/idemlog/protocol/Api"), accessFlags := 16409, slot := 12, constantValue := 0 }, { name := "ADD_PARTITIONS_TO_TXN", type := (.object "com/example/idem_log/idemlog/protocol/Api"), accessFlags := 16409, slot := 13, constantValue := 0 }, { name := "ADD_OFFSETS_TO_TXN", type := (.object "com/example/idem_log/idemlog/protocol/Api"), accessFlags := 16409, slot := 14, constantValue := 0 }, { name := "END_TXN", type := (.object "com/example/idem_log/idemlog/protocol/Api"), accessFlags := 16409, slot := 15, constantValue := 0 }, { name := "TXN_OFFSET_COMMIT", type := (.object "com/example/idem_log/idemlog/protocol/Api"), accessFlags := 16409, slot := 16, constantValue := 0 }, { name := "key", type := .short, accessFlags := 16, slot := 3, constantValue := 0 }, { name := "minVersion", type := .short, accessFlags := 16, slot := 4, constantValue := 0 }, { name := "maxVersion", type := .short, accessFlags := 16, slot := 5, constantValue := 0 }, { name := "firstFlexibleVersion", type := .short, accessFlags := 18, slot := 6, constantValue := 0 }, { name := "$VALUES", type := (.array (.object "com/example/idem_log/idemlog/protocol/Api")), accessFlags := 4122, slot := 17, constantValue := 0 }]
  methods := #[k6m0]
  instanceTypes := #[(.object "java/lang/String"), .int, .int, .short, .short, .short, .short]
  staticTypes := #[(.object "com/example/idem_log/idemlog/protocol/Api"), (.object "com/example/idem_log/idemlog/protocol/Api"), (.object "com/example/idem_log/idemlog/protocol/Api"), (.object "com/example/idem_log/idemlog/protocol/Api"), (.object "com/example/idem_log/idemlog/protocol/Api"), (.object "com/example/idem_log/idemlog/protocol/Api"), (.object "com/example/idem_log/idemlog/protocol/Api"), (.object "com/example/idem_log/idemlog/protocol/Api"), (.object "com/example/idem_log/idemlog/protocol/Api"), (.object "com/example/idem_log/idemlog/protocol/Api"), (.object "com/example/idem_log/idemlog/protocol/Api"), (.object "com/example/idem_log/idemlog/protocol/Api"), (.object "com/example/idem_log/idemlog/protocol/Api"), (.object "com/example/idem_log/idemlog/protocol/Api"), (.object "com/example/idem_log/idemlog/protocol/Api"), (.object "com/example/idem_log/idemlog/protocol/Api"), (.object "com/example/idem_log/idemlog/protocol/Api"), (.array (.object "com/example/idem_log/idemlog/protocol/Api"))]
  resolved := Array.replicate 131 none
  statics := some 0 }

def pool7 : Array CpInfo := pool [(1, u "java/lang/Cloneable"), (0, .class_ 1), (0, u "java/lang/Object"), (0, .class_ 3)] 3

/-- java/lang/Cloneable -/
def k7 : Class := { plain "java/lang/Cloneable" (some 0) with
  accessFlags := 1537
  interfaces := #[]
  cf := some (fileOf pool7 2 #[] #[] 1537 4 #[] #[])
  fields := #[]
  methods := #[]
  instanceTypes := #[]
  staticTypes := #[]
  resolved := Array.replicate 8 none
  statics := none }

/-- the primitive byte -/
def k8 : Class := { plain "byte" none with kind := .primitive 'B', accessFlags := 0x411 }
/-- [B -/
def k9 : Class := { plain "[B" (some 0) with kind := .array 8 .byte, interfaces := #[7, 4], accessFlags := 1041 }

/-- the primitive int -/
def k10 : Class := { plain "int" none with kind := .primitive 'I', accessFlags := 0x411 }
/-- [I -/
def k11 : Class := { plain "[I" (some 0) with kind := .array 10 .int, interfaces := #[7, 4], accessFlags := 1041 }

/-- [Lcom/example/idem_log/idemlog/protocol/Api; -/
def k12 : Class := { plain "[Lcom/example/idem_log/idemlog/protocol/Api;" (some 0) with kind := .array 6 (.object "com/example/idem_log/idemlog/protocol/Api"), interfaces := #[7, 4], accessFlags := 1041 }

def heap : Heap := #[{ cls := 6, slots := #[.ref 1, .ref 2, .ref 3, .ref 4, .ref 5, .ref 6, .ref 7, .ref 8, .ref 9, .ref 10, .ref 11, .ref 12, .ref 13, .ref 14, .ref 15, .ref 16, .ref 17, .null], vm := .statics 6 },
  { cls := 6, slots := #[.null, .int 0, .int 0, .int 0, .int 3, .int 7, .int 0], vm := .none },
  { cls := 6, slots := #[.null, .int 0, .int 0, .int 0, .int 4, .int 11, .int 0], vm := .none },
  { cls := 6, slots := #[.null, .int 0, .int 0, .int 0, .int 2, .int 2, .int 0], vm := .none },
  { cls := 6, slots := #[.null, .int 0, .int 0, .int 0, .int 4, .int 4, .int 0], vm := .none },
  { cls := 6, slots := #[.null, .int 0, .int 0, .int 0, .int 7, .int 7, .int 0], vm := .none },
  { cls := 6, slots := #[.null, .int 0, .int 0, .int 0, .int 7, .int 7, .int 0], vm := .none },
  { cls := 6, slots := #[.null, .int 0, .int 0, .int 0, .int 0, .int 2, .int 0], vm := .none },
  { cls := 6, slots := #[.null, .int 0, .int 0, .int 0, .int 5, .int 5, .int 0], vm := .none },
  { cls := 6, slots := #[.null, .int 0, .int 0, .int 0, .int 3, .int 3, .int 0], vm := .none },
  { cls := 6, slots := #[.null, .int 0, .int 0, .int 0, .int 1, .int 1, .int 0], vm := .none },
  { cls := 6, slots := #[.null, .int 0, .int 0, .int 0, .int 3, .int 3, .int 0], vm := .none },
  { cls := 6, slots := #[.null, .int 0, .int 0, .int 0, .int 3, .int 3, .int 0], vm := .none },
  { cls := 6, slots := #[.null, .int 0, .int 0, .int 0, .int 0, .int 4, .int 0], vm := .none },
  { cls := 6, slots := #[.null, .int 0, .int 0, .int 0, .int 0, .int 0, .int 0], vm := .none },
  { cls := 6, slots := #[.null, .int 0, .int 0, .int 0, .int 0, .int 0, .int 0], vm := .none },
  { cls := 6, slots := #[.null, .int 0, .int 0, .int 0, .int 1, .int 1, .int 0], vm := .none },
  { cls := 6, slots := #[.null, .int 0, .int 0, .int 0, .int 3, .int 3, .int 0], vm := .none }]
def classes : Array Class := #[k0, k1, k2, k3, k4, k5, k6, k7, k8, k9, k10, k11, k12]
def interned : List (Array UInt16 × Addr) := []
def slotsUsed : Nat := 137
def theMethod : MethodId := ⟨1, 1⟩
def args0 : Array Value := #[.int 5, .int 7, .int 3]
def aboutOver (below : List Frame) : State where
  vm := { classes := classes, interned := interned.toArray }
  heap := heap
  slotsUsed := slotsUsed
  threads := #[{ frames := .invoking theMethod args0 :: below }]
def below0 : List Frame := [.native { method := ⟨0, 0⟩, args := #[] }]
def about1 : State := aboutOver below0
def p0 : Program := .bare "" "" ""
def e0 : Env := launch0.env 0 0 0
theorem w_frames : about1.frames = Frame.invoking theMethod args0 :: below0 := rfl
set_option maxRecDepth 65536 in
theorem w_args : argsFit about1.vm theMethod args0 = true := by decide +kernel
set_option maxRecDepth 65536 in
theorem w_heap : heapFits about1 = true := by decide +kernel
set_option maxRecDepth 65536 in
theorem w_runnable : about1.curStatus? = some .runnable := by decide +kernel
set_option maxRecDepth 65536 in
theorem w_alone : about1.alone = true := by decide +kernel
set_option maxRecDepth 65536 in
theorem w_named : about1.methodNamed? x = some theMethod := by decide +kernel
set_option maxRecDepth 65536 in
theorem w_hears : about1.hears theMethod below0 = true := by decide +kernel
set_option maxRecDepth 65536 in
theorem w_ripe : about1.ripe theMethod args0 below0 = true := by decide +kernel
theorem w_running : about1.status = .running := rfl
set_option maxRecDepth 65536 in
theorem w_room : about1.hasRoom e0.platform room_1 = true :=
  launch0.hasRoom_least _ room_1 (by decide +kernel) (by decide +kernel) (by decide +kernel) (by decide +kernel) (by decide +kernel) (by decide +kernel)
theorem allAtoms_all (ts : List Jvm.Cond) (a : Array Jvm.Value) (st : Jvm.State) : (allAtoms ts).before a st = ts.all (fun c => c.before a st) := by
  induction ts with
  | nil => rfl
  | cons c t ih =>
    show (Jvm.Cond.and c (allAtoms t)).before a st = _
    rw [Jvm.Cond.before_and, ih, List.all_cons]
def words1 : List Jvm.Cond := Jvm.Cond.code x code maxLocals ret :: tables_1
/-- a 'code' word, met by the world's own term for the bytes: nothing is compared byte by byte -/
theorem code_word {y : MethodName} {bytes : ByteArray} {mx : Nat} {rt : Option FieldType} {a : Array Value} {s : State} {m : MethodId} {meth : Method} {c : Code} (h1 : s.methodNamed? y = some m) (h2 : s.vm.method? m = some meth) (h3 : meth.code = some c) (h4 : c.code = bytes)
    (h5 : (c.maxLocals == mx && c.exceptionTable.isEmpty && decide (c.maxStack ≤ mostOperands) && decide (meth.sig.returnType = rt) && !meth.locks && decide (parseMethodDescriptor y.desc = some meth.sig)) = true) : (Jvm.Cond.code y bytes mx rt).before a s = true := by
  simp only [Bool.and_eq_true, beq_iff_eq, Bool.not_eq_true', decide_eq_true_eq] at h5
  obtain ⟨⟨⟨⟨⟨g1, g2⟩, g3⟩, g4⟩, g5⟩, g6⟩ := h5
  simp [Cond.before, Cond.holds, Cond.value, h1, h2, h3, h4, g1, g2, g3, g4, g5, g6]
def isCode : Jvm.Cond → Bool
  | .code _ _ _ _ => true
  | _ => false
theorem all_split {L : List Jvm.Cond} {P : Jvm.Cond → Bool} (h1 : L.all (fun c => isCode c || P c) = true) (h2 : ∀ c ∈ L.filter isCode, P c = true) : L.all P = true := by
  refine List.all_eq_true.mpr fun c hc => ?_
  have h := List.all_eq_true.mp h1 c hc
  rcases Bool.eq_false_or_eq_true (isCode c) with hi | hi
  · exact h2 c (List.mem_filter.mpr ⟨hc, hi⟩)
  · simpa [hi] using h
set_option maxRecDepth 65536 in
theorem w_c0 : (Jvm.Cond.code x code maxLocals ret).before args0 about1 = true := code_word (m := ⟨1, 1⟩) (meth := k1m1) (c := k1c1) (by decide +kernel) rfl rfl rfl (by decide +kernel)
set_option maxRecDepth 65536 in
theorem w_c1 : (Jvm.Cond.code ({ cls := "com/example/idem_log/idemlog/protocol/Api", name := "serves", desc := "(S)Z" } : Jvm.MethodName) prog_15_method_5_code (2 : Nat) (Option.some Jvm.ClassFile.FieldType.boolean)).before args0 about1 = true := code_word (m := ⟨6, 0⟩) (meth := k6m0) (c := k6c0) (by decide +kernel) rfl rfl rfl (by decide +kernel)
def codes1 : List Jvm.Cond := [Jvm.Cond.code x code maxLocals ret, Jvm.Cond.code ({ cls := "com/example/idem_log/idemlog/protocol/Api", name := "serves", desc := "(S)Z" } : Jvm.MethodName) prog_15_method_5_code (2 : Nat) (Option.some Jvm.ClassFile.FieldType.boolean)]
set_option maxRecDepth 65536 in
theorem codes_eq : words1.filter isCode = codes1 := rfl
theorem w_codes : ∀ c ∈ words1.filter isCode, c.before args0 about1 = true := by
  rw [codes_eq]
  intro c hc
  simp only [codes1, List.mem_cons, List.not_mem_nil, or_false] at hc
  rcases hc with rfl | rfl
  · exact w_c0
  · exact w_c1
set_option maxRecDepth 65536 in
theorem w_t1 : (words1.take 24).all (fun c => isCode c || c.before args0 about1) = true := by decide +kernel
set_option maxRecDepth 65536 in
theorem w_t2 : ((words1.drop 24).take 24).all (fun c => isCode c || c.before args0 about1) = true := by decide +kernel
set_option maxRecDepth 65536 in
theorem w_t3 : ((words1.drop 24).drop 24).all (fun c => isCode c || c.before args0 about1) = true := by decide +kernel
theorem w_tables : (allAtoms (Jvm.Cond.code x code maxLocals ret :: tables_1)).before args0 about1 = true := by
  rw [allAtoms_all]
  show words1.all (fun c => c.before args0 about1) = true
  refine all_split ?_ w_codes
  rw [← List.take_append_drop 24 words1, List.all_append, w_t1, ← List.take_append_drop 24 (words1.drop 24), List.all_append, w_t2, w_t3]
  rfl
set_option maxRecDepth 65536 in
theorem w_case : (Jvm.Cond.and given_1 narrow_1).before args0 about1 = true := by decide +kernel
theorem w_applies : (headSpec (Jvm.Cond.code x code maxLocals ret :: tables_1) room_1).applies x e0.platform about1 = true :=
  (Spec.applies_iff w_frames).mpr ⟨w_running, w_runnable, w_alone, w_named, w_hears, w_ripe, w_room, w_tables⟩
theorem atStart : AtStart classFile x code maxLocals ret World_1 tables_1 room_1 Calls_1 rest_1 Pre_1 launch0 p0 e0 about1 theMethod args0 below0 :=
  ⟨lists_1, trivial, launch0.admits_env _ _ _, launch0.least_env, fairChoices_fair.cas, fairChoices_fair.clock, w_frames, w_args, w_heap, w_applies, trivial, trivial, w_case⟩
end start1
theorem witness_1 : WitnessClaimed_1 := ⟨start1.p0, start1.e0, start1.about1, start1.theMethod, start1.args0, start1.below0, start1.atStart⟩
end Jvm.Pilot.@@N@@
