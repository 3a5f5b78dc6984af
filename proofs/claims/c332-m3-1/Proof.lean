import JvmDerived
import JvmDerived.Pilot.@@N@@Statement
import JvmDerived.Pilot.@@N@@Code
set_option linter.unusedVariables false
set_option linter.unusedSimpArgs false
namespace Jvm.RoadKit
open Sem ClassFile Op Lib Jvm.Stand Jvm.Free Jvm.LawKit
section New
variable {p : Program} {l : Launch} {e : Env} {R : Room} {s : State} {m : MethodId} {args : Array Value} {below : List Frame} {meth : Method} {c : Code} {T : State} {locs : List Loc} {cells slots : Nat}
theorem own_retI (X : Stand p l e R s m args below meth c T locs cells slots) (hx : p.tables.exec = Jvm.exec) {pc : Nat} {Ls : Array Slot} {z : Int32} {rest : List Value} (hret : meth.sig.returnType = some .int) (hd : decode c.code pc = .ok (.ireturn, 1)) {fs : List Frame}
    (hl : ∀ (f : JFrame) (acts : List Action), f.method = m → f.locked = none → f.entered = [] → (doReturn e (T.setTop f) acts (some (.int z))).1 = T.setFrames fs) : Steps p.tables e below (T.setTop (mkF m pc Ls (.int z :: rest))) (T.setFrames fs) :=
  retOut X hx hret rfl (Or.inl ⟨rfl, Or.inl rfl, z, rfl⟩) hd hl
theorem own_retL (X : Stand p l e R s m args below meth c T locs cells slots) (hx : p.tables.exec = Jvm.exec) {pc : Nat} {Ls : Array Slot} {z : Int64} {rest : List Value} (hret : meth.sig.returnType = some .long) (hd : decode c.code pc = .ok (.lreturn, 1)) {fs : List Frame}
    (hl : ∀ (f : JFrame) (acts : List Action), f.method = m → f.locked = none → f.entered = [] → (doReturn e (T.setTop f) acts (some (.long z))).1 = T.setFrames fs) : Steps p.tables e below (T.setTop (mkF m pc Ls (.long z :: rest))) (T.setFrames fs) :=
  retOut X hx hret rfl (Or.inr (Or.inl ⟨rfl, rfl, z, rfl⟩)) hd hl
theorem own_retA (X : Stand p l e R s m args below meth c T locs cells slots) (hx : p.tables.exec = Jvm.exec) {pc : Nat} {Ls : Array Slot} {w : Value} {t : FieldType} {rest : List Value} (hret : meth.sig.returnType = some t) (ht : t.isReference = true) (hw : w.isRef = true) (hd : decode c.code pc = .ok (.areturn, 1)) {fs : List Frame}
    (hl : ∀ (f : JFrame) (acts : List Action), f.method = m → f.locked = none → f.entered = [] → (doReturn e (T.setTop f) acts (some w)).1 = T.setFrames fs) : Steps p.tables e below (T.setTop (mkF m pc Ls (w :: rest))) (T.setFrames fs) :=
  retOut X hx hret (by cases t <;> cases w <;> simp_all [narrow, Value.isRef, FieldType.isReference]) (Or.inr (Or.inr (Or.inr (Or.inr ⟨rfl, ht, hw⟩)))) hd hl
end New
end Jvm.RoadKit
namespace Jvm.Pilot.@@N@@
open Jvm Jvm.ClassFile Sem Op Lib Jvm.Free Jvm.Stand Jvm.LawKit Jvm.RoadKit Bundle Jvm.Pilot.@@N@@.Jvm.D
theorem own_lcEt {x y : Int64} (h : x = y) : lcmpW x y = (0 : Int32) := by rw [lcW]; exact (lc_eq x y).mpr h
theorem own_lcEf {x y : Int64} (h : ¬ (x = y)) : ¬ (lcmpW x y = (0 : Int32)) := by rw [lcW]; exact fun q => h ((lc_eq x y).mp q)
theorem own_lcLt {x y : Int64} (h : x < y) : lcmpW x y < (0 : Int32) := by rw [lcW]; exact (lc_lt x y).mpr h
theorem own_lcLf {x y : Int64} (h : ¬ (x < y)) : ¬ (lcmpW x y < (0 : Int32)) := by rw [lcW]; exact fun q => h ((lc_lt x y).mp q)
theorem own_lcGt {x y : Int64} (h : y < x) : (0 : Int32) < lcmpW x y := by rw [lcW]; exact (lc_gt x y).mpr h
theorem own_lcGf {x y : Int64} (h : ¬ (y < x)) : ¬ ((0 : Int32) < lcmpW x y) := by rw [lcW]; exact fun q => h ((lc_gt x y).mp q)
theorem own_ext_refl (h : Heap) : Ext h h := ⟨Nat.le_refl _, fun _ _ q => q⟩
theorem own_ext_trans {h h' h'' : Heap} (E : Ext h h') (F : Ext h' h'') : Ext h h'' := ⟨Nat.le_trans E.1 F.1, fun a c q => F.2 a c (E.2 a c q)⟩
theorem own_ext_wr {h h' h'' : Heap} {a : Addr} {sl : Nat} {v : Value} (E : Ext h h') (W : Wr h' h'' a sl v) (q : h.size ≤ a) : Ext h h'' := by
  obtain ⟨cell, -, -, -, rfl⟩ := W
  refine ⟨by simpa using E.1, fun b c r => ?_⟩
  have hb : b < h.size := (Array.getElem?_eq_some_iff.mp r).1
  rw [Array.getElem?_setIfInBounds_ne (Nat.ne_of_gt (Nat.lt_of_lt_of_le hb q))]
  exact E.2 b c r
theorem own_fldI {args : Array Value} {s : State} {t : Term} {a : Addr} {C n d : String} {k : Int32} (ev : t.eval args s none [] s = some (.ref a)) (h : (Cond.eq (.field t C n d) (.int k)).value args s none s [] = some true) : Fld s s.heap a C n d (.int k) := by
  obtain ⟨u, v, h1, h2, -, k2⟩ := cmp_v (Or.inl h)
  have e2 : (Term.int k).eval args s none [] s = some (.int k) := rfl
  cases e2.symm.trans h2
  obtain ⟨z, rfl⟩ := k2
  have q : z = k := by simpa [Cond.value, h1, e2] using h
  subst q
  exact Fld.start ((fld_at ev).symm.trans h1)
theorem own_fldJ {args : Array Value} {s : State} {t : Term} {a : Addr} {C n d : String} {k : Int64} (ev : t.eval args s none [] s = some (.ref a)) (h : (Cond.eq (.field t C n d) (.long k)).value args s none s [] = some true) : Fld s s.heap a C n d (.long k) := by
  obtain ⟨u, v, h1, h2, -, k2⟩ := cmp_v (Or.inl h)
  have e2 : (Term.long k).eval args s none [] s = some (.long k) := rfl
  cases e2.symm.trans h2
  obtain ⟨z, rfl⟩ := k2
  have q : z = k := by simpa [Cond.value, h1, e2] using h
  subst q
  exact Fld.start ((fld_at ev).symm.trans h1)
theorem own_fldN {args : Array Value} {s : State} {t : Term} {a : Addr} {C n d : String} (ev : t.eval args s none [] s = some (.ref a)) (h : (Cond.eq (.field t C n d) .null).value args s none s [] = some true) : Fld s s.heap a C n d .null :=
  Fld.start ((fld_at ev).symm.trans (null_v h))
theorem own_eqR {args : Array Value} {s : State} {t u : Term} {b : Addr} (eu : u.eval args s none [] s = some (.ref b)) (h : (Cond.eq t u).value args s none s [] = some true) : t.eval args s none [] s = some (.ref b) := by
  obtain ⟨x, y, h1, h2, k1, k2⟩ := cmp_v (Or.inl h)
  cases eu.symm.trans h2
  have hx : x.isRef = true := k2.2
  have q := gotT (eq_R h1 h2 hx rfl) h
  rw [h1, q]
theorem own_fldR {args : Array Value} {s : State} {t u : Term} {a b : Addr} {C n d : String} (ev : t.eval args s none [] s = some (.ref a)) (eu : u.eval args s none [] s = some (.ref b)) (h : (Cond.eq (.field t C n d) u).value args s none s [] = some true) : Fld s s.heap a C n d (.ref b) :=
  Fld.start ((fld_at ev).symm.trans (own_eqR eu h))
theorem own_elI {args : Array Value} {s : State} {t : Term} {a : Addr} {cl : Cell} {j k : Int32} {i : Nat} (ev : t.eval args s none [] s = some (.ref a)) (hc : s.heap[a]? = some cl) (h : (Cond.eq (.elem t (.int j)) (.int k)).value args s none s [] = some true) (hj : j.toNatClampNeg = i) : cl.slots[i]? = some (.int k) := by
  obtain ⟨u, v, h1, h2, -, k2⟩ := cmp_v (Or.inl h)
  have e2 : (Term.int k).eval args s none [] s = some (.int k) := rfl
  cases e2.symm.trans h2
  obtain ⟨z, rfl⟩ := k2
  have q : z = k := by simpa [Cond.value, h1, e2] using h
  subst q hj
  exact (elem_in h1 ev (rfl : (Term.int j).eval args s none [] s = some (.int j)) hc).2
theorem own_elR {args : Array Value} {s : State} {t u : Term} {a b : Addr} {cl : Cell} {j : Int32} {i : Nat} (ev : t.eval args s none [] s = some (.ref a)) (eu : u.eval args s none [] s = some (.ref b)) (hc : s.heap[a]? = some cl) (h : (Cond.eq (.elem t (.int j)) u).value args s none s [] = some true) (hj : j.toNatClampNeg = i) : cl.slots[i]? = some (.ref b) := by
  subst hj
  exact (elem_in (own_eqR eu h) ev (rfl : (Term.int j).eval args s none [] s = some (.int j)) hc).2
theorem own_len {args : Array Value} {s : State} {t : Term} {a : Addr} {cl : Cell} {ty : FieldType} {k : Int32} (ev : t.eval args s none [] s = some (.ref a)) (A : Arr s s.heap a cl ty) (h : (Cond.eq (.length t) (.int k)).value args s none s [] = some true) : cl.slots.size < 2 ^ 31 ∧ cl.slots.size.toInt32 = k := by
  obtain ⟨u, v, h1, h2, -, k2⟩ := cmp_v (Or.inl h)
  have e2 : (Term.int k).eval args s none [] s = some (.int k) := rfl
  cases e2.symm.trans h2
  obtain ⟨z, rfl⟩ := k2
  have q : z = k := by simpa [Cond.value, h1, e2] using h
  subst q
  have ha := A.fin (Vm.Alike.refl _)
  simp only [Term.eval, ev, ha, Option.bind_eq_bind, Option.bind_some] at h1
  split at h1
  · rename_i q
    exact ⟨q, by simpa using h1⟩
  · cases h1
theorem own_mask (p : Int32) : (p &&& (2147483647 : Int32)).toInt = p.toInt % 2 ^ 31 := by
  have h1 : (p &&& (2147483647 : Int32)).toInt = ((p &&& (2147483647 : Int32)).toBitVec).toInt := rfl
  have h2 : (p &&& (2147483647 : Int32)).toBitVec = p.toBitVec &&& 2147483647#32 := by simp [Int32.toBitVec_and]
  have h3 : p.toInt = p.toBitVec.toInt := rfl
  rw [h1, h2, h3, BitVec.toInt_eq_toNat_bmod, BitVec.toInt_eq_toNat_bmod, BitVec.toNat_and]
  have h4 : p.toBitVec.toNat &&& (2147483647#32).toNat = p.toBitVec.toNat % 2 ^ 31 := Nat.and_two_pow_sub_one_eq_mod _ 31
  rw [h4]
  have h5 := p.toBitVec.isLt
  generalize p.toBitVec.toNat = n at *
  simp only [Int.bmod_def]
  omega
theorem own_cases5 {z p : Int32} (h : z = (p &&& (2147483647 : Int32)) % (5 : Int32)) : z = (0 : Int32) ∨ z = (1 : Int32) ∨ z = (2 : Int32) ∨ z = (3 : Int32) ∨ z = (4 : Int32) := by
  have e1 : (p &&& (2147483647 : Int32)).toInt = p.toInt % 2 ^ 31 := own_mask p
  have e2 : z.toInt = (p.toInt % 2 ^ 31) % 5 := by
    rw [h, Int32.toInt_mod, e1, show (5 : Int32).toInt = 5 from by decide, Int.tmod_eq_emod_of_nonneg (Int.emod_nonneg _ (by decide))]
  have e3 : 0 ≤ z.toInt ∧ z.toInt < 5 := by rw [e2]; exact ⟨Int.emod_nonneg _ (by decide), Int.emod_lt_of_pos _ (by decide)⟩
  have k : ∀ {c : Int32} {k : Int}, c.toInt = k → z.toInt = k → z = c := fun h1 h2 => Int32.toInt_inj.mp (h2.trans h1.symm)
  have e4 : z.toInt = 0 ∨ z.toInt = 1 ∨ z.toInt = 2 ∨ z.toInt = 3 ∨ z.toInt = 4 := by omega
  rcases e4 with e | e | e | e | e
  · exact Or.inl (k (by decide) e)
  · exact Or.inr (Or.inl (k (by decide) e))
  · exact Or.inr (Or.inr (Or.inl (k (by decide) e)))
  · exact Or.inr (Or.inr (Or.inr (Or.inl (k (by decide) e))))
  · exact Or.inr (Or.inr (Or.inr (Or.inr ((k (by decide) e)))))
def World (Z : State) (h : Heap) (wOFFER : Addr) (wOFFER_Overview : Addr) (wORDER : Addr) (wORDER_StatusType : Addr) (wACTUAL_COSTING : Addr) (wHISTORY : Addr) : Prop := Sta Z h "com/example/milepost/milepost/status/StatusType" "OFFER" "Lcom/example/milepost/milepost/status/StatusType;" (.ref wOFFER) ∧ Exa Z h wOFFER "com/example/milepost/milepost/status/StatusType" ∧ Sta Z h "com/example/milepost/milepost/status/Overview" "OFFER" "Lcom/example/milepost/milepost/status/Overview;" (.ref wOFFER_Overview) ∧ Exa Z h wOFFER_Overview "com/example/milepost/milepost/status/Overview" ∧ Sta Z h "com/example/milepost/milepost/status/Overview" "ORDER" "Lcom/example/milepost/milepost/status/Overview;" (.ref wORDER) ∧ Exa Z h wORDER "com/example/milepost/milepost/status/Overview" ∧ Fld Z h wORDER "java/lang/Enum" "ordinal" "I" (.int (1 : Int32)) ∧ Fld Z h wOFFER_Overview "java/lang/Enum" "ordinal" "I" (.int (0 : Int32)) ∧ Sta Z h "com/example/milepost/milepost/status/StatusType" "ORDER" "Lcom/example/milepost/milepost/status/StatusType;" (.ref wORDER_StatusType) ∧ Exa Z h wORDER_StatusType "com/example/milepost/milepost/status/StatusType" ∧ Fld Z h wOFFER "java/lang/Enum" "ordinal" "I" (.int (0 : Int32)) ∧ Fld Z h wORDER_StatusType "java/lang/Enum" "ordinal" "I" (.int (1 : Int32)) ∧ Sta Z h "com/example/milepost/milepost/status/StatusType" "ACTUAL_COSTING" "Lcom/example/milepost/milepost/status/StatusType;" (.ref wACTUAL_COSTING) ∧ Exa Z h wACTUAL_COSTING "com/example/milepost/milepost/status/StatusType" ∧ Fld Z h wACTUAL_COSTING "java/lang/Enum" "ordinal" "I" (.int (2 : Int32)) ∧ Sta Z h "com/example/milepost/milepost/status/StatusType" "HISTORY" "Lcom/example/milepost/milepost/status/StatusType;" (.ref wHISTORY) ∧ Exa Z h wHISTORY "com/example/milepost/milepost/status/StatusType" ∧ Fld Z h wHISTORY "java/lang/Enum" "ordinal" "I" (.int (3 : Int32)) ∧ True
theorem World.ext {Z : State} {h h' : Heap} {wOFFER : Addr} {wOFFER_Overview : Addr} {wORDER : Addr} {wORDER_StatusType : Addr} {wACTUAL_COSTING : Addr} {wHISTORY : Addr} (W : World Z h wOFFER wOFFER_Overview wORDER wORDER_StatusType wACTUAL_COSTING wHISTORY) (E : Ext h h') : World Z h' wOFFER wOFFER_Overview wORDER wORDER_StatusType wACTUAL_COSTING wHISTORY := by
  obtain ⟨SOFFER, EOFFER, SOFFER_Overview, EOFFER_Overview, SORDER, EORDER, FORDER_ordinal, FOFFER_Overview_ordinal, SORDER_StatusType, EORDER_StatusType, FOFFER_ordinal, FORDER_StatusType_ordinal, SACTUAL_COSTING, EACTUAL_COSTING, FACTUAL_COSTING_ordinal, SHISTORY, EHISTORY, FHISTORY_ordinal, -⟩ := W
  exact ⟨SOFFER.ext E, EOFFER.ext E, SOFFER_Overview.ext E, EOFFER_Overview.ext E, SORDER.ext E, EORDER.ext E, FORDER_ordinal.ext E, FOFFER_Overview_ordinal.ext E, SORDER_StatusType.ext E, EORDER_StatusType.ext E, FOFFER_ordinal.ext E, FORDER_StatusType_ordinal.ext E, SACTUAL_COSTING.ext E, EACTUAL_COSTING.ext E, FACTUAL_COSTING_ordinal.ext E, SHISTORY.ext E, EHISTORY.ext E, FHISTORY_ordinal.ext E, trivial⟩
theorem d1_0 : decode method_3_code 0 = .ok (.iload_n 0, 1) := by decide +kernel
theorem d1_1 : decode method_3_code 1 = .ok (.ifCond .ne 7, 3) := by decide +kernel
theorem d1_4 : decode method_3_code 4 = .ok (.getstatic 27, 3) := by decide +kernel
theorem d1_7 : decode method_3_code 7 = .ok (.areturn, 1) := by decide +kernel
theorem d1_8 : decode method_3_code 8 = .ok (.iload_n 0, 1) := by decide +kernel
theorem d1_9 : decode method_3_code 9 = .ok (.iconst 1, 1) := by decide +kernel
theorem d1_10 : decode method_3_code 10 = .ok (.if_icmp .ne 7, 3) := by decide +kernel
theorem d1_13 : decode method_3_code 13 = .ok (.getstatic 32, 3) := by decide +kernel
theorem d1_16 : decode method_3_code 16 = .ok (.areturn, 1) := by decide +kernel
theorem d1_17 : decode method_3_code 17 = .ok (.iload_n 0, 1) := by decide +kernel
theorem d1_18 : decode method_3_code 18 = .ok (.iconst 2, 1) := by decide +kernel
theorem d1_19 : decode method_3_code 19 = .ok (.if_icmp .ne 7, 3) := by decide +kernel
theorem d1_22 : decode method_3_code 22 = .ok (.getstatic 34, 3) := by decide +kernel
theorem d1_25 : decode method_3_code 25 = .ok (.areturn, 1) := by decide +kernel
theorem d1_26 : decode method_3_code 26 = .ok (.iload_n 0, 1) := by decide +kernel
theorem d1_27 : decode method_3_code 27 = .ok (.iconst 3, 1) := by decide +kernel
theorem d1_28 : decode method_3_code 28 = .ok (.if_icmp .ne 7, 3) := by decide +kernel
theorem d1_31 : decode method_3_code 31 = .ok (.getstatic 37, 3) := by decide +kernel
theorem d1_34 : decode method_3_code 34 = .ok (.areturn, 1) := by decide +kernel
theorem d1_35 : decode method_3_code 35 = .ok (.aconst_null, 1) := by decide +kernel
theorem d1_36 : decode method_3_code 36 = .ok (.areturn, 1) := by decide +kernel
theorem pn_0 : plainName "com/example/milepost/milepost/status/OverviewOwnsPinLaw" = true := by first | (simp [plainName, overriddenIn]; done) | decide +kernel
def f1 (p0 : Int32) (wOFFER : Addr) (wOFFER_Overview : Addr) (wORDER : Addr) (wORDER_StatusType : Addr) (wACTUAL_COSTING : Addr) (wHISTORY : Addr) : Value := if p0 = (0 : Int32) then (.ref wOFFER) else if p0 = (1 : Int32) then (.ref wORDER_StatusType) else if p0 = (2 : Int32) then (.ref wACTUAL_COSTING) else if p0 = (3 : Int32) then (.ref wHISTORY) else .null
theorem ef_1 (m : MethodId) (p0 : Int32) : entryFrame m #[(.int p0)] 1 = mkF m 0 #[.val (.int p0)] [] := by first | (simp [entryFrame, mkF, argsToLocals, Value.category]; done) | rfl
def Q1 (Z : State) (p0 : Int32) (wOFFER : Addr) (wOFFER_Overview : Addr) (wORDER : Addr) (wORDER_StatusType : Addr) (wACTUAL_COSTING : Addr) (wHISTORY : Addr) (h0 : Heap) (n0 : Nat) (v : Option Value) (h : Heap) (L : List Loc) : Prop := v = some (f1 p0 wOFFER wOFFER_Overview wORDER wORDER_StatusType wACTUAL_COSTING wHISTORY) ∧ Fr n0 L ∧ h = h0
set_option maxRecDepth 65536 in
set_option maxHeartbeats 40000000 in
theorem rm1 (l : Launch) (Z : State) (a0 : Array Value) (hw : ∀ d ∈ tables_1, d.before a0 Z = true) (ws : List Jvm.Cond) (p0 : Int32) (wOFFER : Addr) (wOFFER_Overview : Addr) (wORDER : Addr) (wORDER_StatusType : Addr) (wACTUAL_COSTING : Addr) (wHISTORY : Addr) (h0 : Heap) (n0 : Nat) (Z0 : n0 ≤ h0.size) (W0 : World Z h0 wOFFER wOFFER_Overview wORDER wORDER_StatusType wACTUAL_COSTING wHISTORY) :
    MetFree l (⟨"com/example/milepost/milepost/status/OverviewOwnsPinLaw", "typeOf", "(I)Lcom/example/milepost/milepost/status/StatusType;"⟩ : MethodName) (head1 (Jvm.Cond.code (⟨"com/example/milepost/milepost/status/OverviewOwnsPinLaw", "typeOf", "(I)Lcom/example/milepost/milepost/status/StatusType;"⟩ : MethodName) method_3_code 1 (some (.object "com/example/milepost/milepost/status/StatusType")) :: ws) ({ frames := 0, cells := 0, slots := 0, locals := 0 } : Room)) (fun a U => a = #[(.int p0)] ∧ Z.Warmed39 U.vm ∧ U.heap = h0) (fun _ _ _ _ _ => True) (fun _ U o U' => ∃ v L, o = .returned v ∧ Q1 Z p0 wOFFER wOFFER_Overview wORDER wORDER_StatusType wACTUAL_COSTING wHISTORY h0 n0 v U'.heap L ∧ FrameEnd U o U' L ({ frames := 0, cells := 0, slots := 0, locals := 0 } : Room).cells ({ frames := 0, cells := 0, slots := 0, locals := 0 } : Room).slots) := by
  refine MetFree.of_bodySF (plainFor_of_name pn_0) hisR ?_
  intro p e s m args below meth c s₁ Bd hml0 hP hK
  obtain ⟨rfl, hZ, hh⟩ := hP
  have hx := Bd.exec
  have hby := Bd.bytes
  have hml : c.maxLocals = 1 := hml0
  have hown : s.vm.findClass "com/example/milepost/milepost/status/OverviewOwnsPinLaw" = some m.cls := findClass_of_methodNamed Bd.named
  have X0 : Stand p l e ({ frames := 0, cells := 0, slots := 0, locals := 0 } : Room) s m #[(.int p0)] below meth c s₁ [] 0 0 := Stand.of_body Bd
  have e0 : s₁.heap = h0 := by rw [← hh, Bd.state]; rfl
  have N0 := Fr.nil n0
  have W1 := W0
  obtain ⟨SOFFER, EOFFER, SOFFER_Overview, EOFFER_Overview, SORDER, EORDER, FORDER_ordinal, FOFFER_Overview_ordinal, SORDER_StatusType, EORDER_StatusType, FOFFER_ordinal, FORDER_StatusType_ordinal, SACTUAL_COSTING, EACTUAL_COSTING, FACTUAL_COSTING_ordinal, SHISTORY, EHISTORY, FHISTORY_ordinal, -⟩ := W1
  have pre0 : ∀ t, Steps p.tables e below (s₁.setTop (mkF m 0 #[.val (.int p0)] [])) t → Steps p.tables e below (s₁.setTop (entryFrame m #[(.int p0)] 1)) t := fun t k => castTop (ef_1 m p0) k
  have k1 : ∀ t, Steps p.tables e below (s₁.setTop (mkF m 1 #[.val (.int p0)] [(.int p0)])) t → Steps p.tables e below (s₁.setTop (entryFrame m #[(.int p0)] 1)) t := fun t kt => pre0 t (by
    show Steps p.tables e below (s₁.setTop (mkF m 0 #[.val (.int p0)] [])) _
    refine XS.iloadN X0.here hx rfl (hb hby d1_0) rfl ?_
    exact kt)
  by_cases hc2 : p0 = (0 : Int32)
  · obtain ⟨T3, X3, e3, st3⟩ := getS2 X0 hx hZ hown (host := "") (Or.inl (hw _ (List.mem_of_getElem? (i := 5) rfl))) Via.refl e0 SOFFER (g := (mkF m 4 #[.val (.int p0)] [])) rfl (hb hby d1_4)
    obtain ⟨fs, hr, hrun, hended, hW, hsame⟩ := X3.leave (v := some (.ref wOFFER)) (fun h => by rw [Bd.returns] at h; cases h)
    refine ⟨_, _, k1 _ ?_, hrun, hended, _, _, rfl, ?_, ⟨_, rfl⟩, hW, hsame.mono (by decide) (by decide)⟩
    · show Steps p.tables e below (s₁.setTop (mkF m 1 #[.val (.int p0)] [(.int p0)])) _
      refine XS.ifNo X0.here hx rfl (hb hby d1_1) rfl ((if0 _ _).trans (teq (hc2 : p0 = (0 : Int32))).2) ?_
      show Steps p.tables e below (s₁.setTop (mkF m 4 #[.val (.int p0)] [])) _
      refine st3 _ ?_
      show Steps p.tables e below (T3.setTop (mkF m 7 #[.val (.int p0)] [(.ref wOFFER)])) _
      exact own_retA X3 hx Bd.returns rfl rfl (hb hby d1_7) hr
    · show Q1 Z p0 wOFFER wOFFER_Overview wORDER wORDER_StatusType wACTUAL_COSTING wHISTORY h0 n0 _ T3.heap _
      rw [e3]
      exact ⟨by rw [f1, if_pos hc2], N0, rfl⟩
  · have k4 : ∀ t, Steps p.tables e below (s₁.setTop (mkF m 10 #[.val (.int p0)] [(.int (1 : Int32)), (.int p0)])) t → Steps p.tables e below (s₁.setTop (entryFrame m #[(.int p0)] 1)) t := fun t kt => k1 t (by
      show Steps p.tables e below (s₁.setTop (mkF m 1 #[.val (.int p0)] [(.int p0)])) _
      refine XS.ifYes X0.here hx rfl (pc0 := 1) (pc' := 8) rfl (hb hby d1_1) rfl ((if0 _ _).trans (feq (hc2 : ¬ (p0 = (0 : Int32)))).2) (by decide) (by decide) ?_
      show Steps p.tables e below (s₁.setTop (mkF m 8 #[.val (.int p0)] [])) _
      refine XS.iloadN X0.here hx rfl (hb hby d1_8) rfl ?_
      show Steps p.tables e below (s₁.setTop (mkF m 9 #[.val (.int p0)] [(.int p0)])) _
      refine XS.iconst X0.here hx rfl (hb hby d1_9) ?_
      exact kt)
    by_cases hc5 : p0 = (1 : Int32)
    · obtain ⟨T6, X6, e6, st6⟩ := getS2 X0 hx hZ hown (host := "") (Or.inl (hw _ (List.mem_of_getElem? (i := 26) rfl))) Via.refl e0 SORDER_StatusType (g := (mkF m 13 #[.val (.int p0)] [])) rfl (hb hby d1_13)
      obtain ⟨fs, hr, hrun, hended, hW, hsame⟩ := X6.leave (v := some (.ref wORDER_StatusType)) (fun h => by rw [Bd.returns] at h; cases h)
      refine ⟨_, _, k4 _ ?_, hrun, hended, _, _, rfl, ?_, ⟨_, rfl⟩, hW, hsame.mono (by decide) (by decide)⟩
      · show Steps p.tables e below (s₁.setTop (mkF m 10 #[.val (.int p0)] [(.int (1 : Int32)), (.int p0)])) _
        refine XS.icmpNo X0.here hx rfl (hb hby d1_10) rfl (teq (hc5 : p0 = (1 : Int32))).2 ?_
        show Steps p.tables e below (s₁.setTop (mkF m 13 #[.val (.int p0)] [])) _
        refine st6 _ ?_
        show Steps p.tables e below (T6.setTop (mkF m 16 #[.val (.int p0)] [(.ref wORDER_StatusType)])) _
        exact own_retA X6 hx Bd.returns rfl rfl (hb hby d1_16) hr
      · show Q1 Z p0 wOFFER wOFFER_Overview wORDER wORDER_StatusType wACTUAL_COSTING wHISTORY h0 n0 _ T6.heap _
        rw [e6]
        exact ⟨by rw [f1, if_neg hc2, if_pos hc5], N0, rfl⟩
    · have k7 : ∀ t, Steps p.tables e below (s₁.setTop (mkF m 19 #[.val (.int p0)] [(.int (2 : Int32)), (.int p0)])) t → Steps p.tables e below (s₁.setTop (entryFrame m #[(.int p0)] 1)) t := fun t kt => k4 t (by
        show Steps p.tables e below (s₁.setTop (mkF m 10 #[.val (.int p0)] [(.int (1 : Int32)), (.int p0)])) _
        refine XS.icmpYes X0.here hx rfl (pc0 := 10) (pc' := 17) rfl (hb hby d1_10) rfl (feq (hc5 : ¬ (p0 = (1 : Int32)))).2 (by decide) (by decide) ?_
        show Steps p.tables e below (s₁.setTop (mkF m 17 #[.val (.int p0)] [])) _
        refine XS.iloadN X0.here hx rfl (hb hby d1_17) rfl ?_
        show Steps p.tables e below (s₁.setTop (mkF m 18 #[.val (.int p0)] [(.int p0)])) _
        refine XS.iconst X0.here hx rfl (hb hby d1_18) ?_
        exact kt)
      by_cases hc8 : p0 = (2 : Int32)
      · obtain ⟨T9, X9, e9, st9⟩ := getS2 X0 hx hZ hown (host := "") (Or.inl (hw _ (List.mem_of_getElem? (i := 27) rfl))) Via.refl e0 SACTUAL_COSTING (g := (mkF m 22 #[.val (.int p0)] [])) rfl (hb hby d1_22)
        obtain ⟨fs, hr, hrun, hended, hW, hsame⟩ := X9.leave (v := some (.ref wACTUAL_COSTING)) (fun h => by rw [Bd.returns] at h; cases h)
        refine ⟨_, _, k7 _ ?_, hrun, hended, _, _, rfl, ?_, ⟨_, rfl⟩, hW, hsame.mono (by decide) (by decide)⟩
        · show Steps p.tables e below (s₁.setTop (mkF m 19 #[.val (.int p0)] [(.int (2 : Int32)), (.int p0)])) _
          refine XS.icmpNo X0.here hx rfl (hb hby d1_19) rfl (teq (hc8 : p0 = (2 : Int32))).2 ?_
          show Steps p.tables e below (s₁.setTop (mkF m 22 #[.val (.int p0)] [])) _
          refine st9 _ ?_
          show Steps p.tables e below (T9.setTop (mkF m 25 #[.val (.int p0)] [(.ref wACTUAL_COSTING)])) _
          exact own_retA X9 hx Bd.returns rfl rfl (hb hby d1_25) hr
        · show Q1 Z p0 wOFFER wOFFER_Overview wORDER wORDER_StatusType wACTUAL_COSTING wHISTORY h0 n0 _ T9.heap _
          rw [e9]
          exact ⟨by rw [f1, if_neg hc2, if_neg hc5, if_pos hc8], N0, rfl⟩
      · have k10 : ∀ t, Steps p.tables e below (s₁.setTop (mkF m 28 #[.val (.int p0)] [(.int (3 : Int32)), (.int p0)])) t → Steps p.tables e below (s₁.setTop (entryFrame m #[(.int p0)] 1)) t := fun t kt => k7 t (by
          show Steps p.tables e below (s₁.setTop (mkF m 19 #[.val (.int p0)] [(.int (2 : Int32)), (.int p0)])) _
          refine XS.icmpYes X0.here hx rfl (pc0 := 19) (pc' := 26) rfl (hb hby d1_19) rfl (feq (hc8 : ¬ (p0 = (2 : Int32)))).2 (by decide) (by decide) ?_
          show Steps p.tables e below (s₁.setTop (mkF m 26 #[.val (.int p0)] [])) _
          refine XS.iloadN X0.here hx rfl (hb hby d1_26) rfl ?_
          show Steps p.tables e below (s₁.setTop (mkF m 27 #[.val (.int p0)] [(.int p0)])) _
          refine XS.iconst X0.here hx rfl (hb hby d1_27) ?_
          exact kt)
        by_cases hc11 : p0 = (3 : Int32)
        · obtain ⟨T12, X12, e12, st12⟩ := getS2 X0 hx hZ hown (host := "") (Or.inl (hw _ (List.mem_of_getElem? (i := 24) rfl))) Via.refl e0 SHISTORY (g := (mkF m 31 #[.val (.int p0)] [])) rfl (hb hby d1_31)
          obtain ⟨fs, hr, hrun, hended, hW, hsame⟩ := X12.leave (v := some (.ref wHISTORY)) (fun h => by rw [Bd.returns] at h; cases h)
          refine ⟨_, _, k10 _ ?_, hrun, hended, _, _, rfl, ?_, ⟨_, rfl⟩, hW, hsame.mono (by decide) (by decide)⟩
          · show Steps p.tables e below (s₁.setTop (mkF m 28 #[.val (.int p0)] [(.int (3 : Int32)), (.int p0)])) _
            refine XS.icmpNo X0.here hx rfl (hb hby d1_28) rfl (teq (hc11 : p0 = (3 : Int32))).2 ?_
            show Steps p.tables e below (s₁.setTop (mkF m 31 #[.val (.int p0)] [])) _
            refine st12 _ ?_
            show Steps p.tables e below (T12.setTop (mkF m 34 #[.val (.int p0)] [(.ref wHISTORY)])) _
            exact own_retA X12 hx Bd.returns rfl rfl (hb hby d1_34) hr
          · show Q1 Z p0 wOFFER wOFFER_Overview wORDER wORDER_StatusType wACTUAL_COSTING wHISTORY h0 n0 _ T12.heap _
            rw [e12]
            exact ⟨by rw [f1, if_neg hc2, if_neg hc5, if_neg hc8, if_pos hc11], N0, rfl⟩
        · obtain ⟨fs, hr, hrun, hended, hW, hsame⟩ := X0.leave (v := some .null) (fun h => by rw [Bd.returns] at h; cases h)
          refine ⟨_, _, k10 _ ?_, hrun, hended, _, _, rfl, ?_, ⟨_, rfl⟩, hW, hsame.mono (by decide) (by decide)⟩
          · show Steps p.tables e below (s₁.setTop (mkF m 28 #[.val (.int p0)] [(.int (3 : Int32)), (.int p0)])) _
            refine XS.icmpYes X0.here hx rfl (pc0 := 28) (pc' := 35) rfl (hb hby d1_28) rfl (feq (hc11 : ¬ (p0 = (3 : Int32)))).2 (by decide) (by decide) ?_
            show Steps p.tables e below (s₁.setTop (mkF m 35 #[.val (.int p0)] [])) _
            refine XS.aconstNull X0.here hx rfl (hb hby d1_35) ?_
            show Steps p.tables e below (s₁.setTop (mkF m 36 #[.val (.int p0)] [.null])) _
            exact own_retA X0 hx Bd.returns rfl rfl (hb hby d1_36) hr
          · show Q1 Z p0 wOFFER wOFFER_Overview wORDER wORDER_StatusType wACTUAL_COSTING wHISTORY h0 n0 _ s₁.heap _
            rw [e0]
            exact ⟨by rw [f1, if_neg hc2, if_neg hc5, if_neg hc8, if_neg hc11], N0, rfl⟩
theorem d2_0 : decode prog_84_method_8_code 0 = .ok (.aload_n 0, 1) := by decide +kernel
theorem d2_1 : decode prog_84_method_8_code 1 = .ok (.getstatic 3, 3) := by decide +kernel
theorem d2_4 : decode prog_84_method_8_code 4 = .ok (.if_acmp .ne 18, 3) := by decide +kernel
theorem d2_7 : decode prog_84_method_8_code 7 = .ok (.aload_n 1, 1) := by decide +kernel
theorem d2_8 : decode prog_84_method_8_code 8 = .ok (.getstatic 55, 3) := by decide +kernel
theorem d2_11 : decode prog_84_method_8_code 11 = .ok (.if_acmp .ne 7, 3) := by decide +kernel
theorem d2_14 : decode prog_84_method_8_code 14 = .ok (.iconst 1, 1) := by decide +kernel
theorem d2_15 : decode prog_84_method_8_code 15 = .ok (.goto 26, 3) := by decide +kernel
theorem d2_41 : decode prog_84_method_8_code 41 = .ok (.ireturn, 1) := by decide +kernel
theorem d2_18 : decode prog_84_method_8_code 18 = .ok (.iconst 0, 1) := by decide +kernel
theorem d2_19 : decode prog_84_method_8_code 19 = .ok (.goto 22, 3) := by decide +kernel
theorem d2_22 : decode prog_84_method_8_code 22 = .ok (.aload_n 1, 1) := by decide +kernel
theorem d2_23 : decode prog_84_method_8_code 23 = .ok (.getstatic 60, 3) := by decide +kernel
theorem d2_26 : decode prog_84_method_8_code 26 = .ok (.if_acmp .eq 10, 3) := by decide +kernel
theorem d2_36 : decode prog_84_method_8_code 36 = .ok (.iconst 1, 1) := by decide +kernel
theorem d2_37 : decode prog_84_method_8_code 37 = .ok (.goto 4, 3) := by decide +kernel
theorem d2_29 : decode prog_84_method_8_code 29 = .ok (.aload_n 1, 1) := by decide +kernel
theorem d2_30 : decode prog_84_method_8_code 30 = .ok (.getstatic 62, 3) := by decide +kernel
theorem d2_33 : decode prog_84_method_8_code 33 = .ok (.if_acmp .ne 7, 3) := by decide +kernel
theorem d2_40 : decode prog_84_method_8_code 40 = .ok (.iconst 0, 1) := by decide +kernel
theorem pn_1 : plainName "com/example/milepost/milepost/status/Overview" = true := by first | (simp [plainName, overriddenIn]; done) | decide +kernel
def f2 (p0 : Addr) (p1 : Addr) (wOFFER : Addr) (wOFFER_Overview : Addr) (wORDER : Addr) (wORDER_StatusType : Addr) (wACTUAL_COSTING : Addr) (wHISTORY : Addr) : Int32 := if p0 = wOFFER_Overview then if p1 = wOFFER then (1 : Int32) else (0 : Int32) else if p1 = wORDER_StatusType then (1 : Int32) else if p1 = wACTUAL_COSTING then (1 : Int32) else (0 : Int32)
theorem ef_2 (m : MethodId) (p0 : Addr) (p1 : Addr) : entryFrame m #[(.ref p0), (.ref p1)] 2 = mkF m 0 #[.val (.ref p0), .val (.ref p1)] [] := by first | (simp [entryFrame, mkF, argsToLocals, Value.category]; done) | rfl
def Q2 (Z : State) (p0 : Addr) (p1 : Addr) (wOFFER : Addr) (wOFFER_Overview : Addr) (wORDER : Addr) (wORDER_StatusType : Addr) (wACTUAL_COSTING : Addr) (wHISTORY : Addr) (h0 : Heap) (n0 : Nat) (v : Option Value) (h : Heap) (L : List Loc) : Prop := v = some (.int (f2 p0 p1 wOFFER wOFFER_Overview wORDER wORDER_StatusType wACTUAL_COSTING wHISTORY)) ∧ Fr n0 L ∧ h = h0
set_option maxRecDepth 65536 in
set_option maxHeartbeats 40000000 in
theorem rm2 (l : Launch) (Z : State) (a0 : Array Value) (hw : ∀ d ∈ tables_1, d.before a0 Z = true) (ws : List Jvm.Cond) (p0 : Addr) (p1 : Addr) (wOFFER : Addr) (wOFFER_Overview : Addr) (wORDER : Addr) (wORDER_StatusType : Addr) (wACTUAL_COSTING : Addr) (wHISTORY : Addr) (h0 : Heap) (n0 : Nat) (Z0 : n0 ≤ h0.size) (W0 : World Z h0 wOFFER wOFFER_Overview wORDER wORDER_StatusType wACTUAL_COSTING wHISTORY) :
    MetFree l (⟨"com/example/milepost/milepost/status/Overview", "owns", "(Lcom/example/milepost/milepost/status/StatusType;)Z"⟩ : MethodName) (head1 (Jvm.Cond.code (⟨"com/example/milepost/milepost/status/Overview", "owns", "(Lcom/example/milepost/milepost/status/StatusType;)Z"⟩ : MethodName) prog_84_method_8_code 2 (some .boolean) :: ws) ({ frames := 0, cells := 0, slots := 0, locals := 0 } : Room)) (fun a U => a = #[(.ref p0), (.ref p1)] ∧ Z.Warmed39 U.vm ∧ U.heap = h0) (fun _ _ _ _ _ => True) (fun _ U o U' => ∃ v L, o = .returned v ∧ Q2 Z p0 p1 wOFFER wOFFER_Overview wORDER wORDER_StatusType wACTUAL_COSTING wHISTORY h0 n0 v U'.heap L ∧ FrameEnd U o U' L ({ frames := 0, cells := 0, slots := 0, locals := 0 } : Room).cells ({ frames := 0, cells := 0, slots := 0, locals := 0 } : Room).slots) := by
  refine MetFree.of_bodySF (plainFor_of_name pn_1) hisR ?_
  intro p e s m args below meth c s₁ Bd hml0 hP hK
  obtain ⟨rfl, hZ, hh⟩ := hP
  have hx := Bd.exec
  have hby := Bd.bytes
  have hml : c.maxLocals = 2 := hml0
  have hown : s.vm.findClass "com/example/milepost/milepost/status/Overview" = some m.cls := findClass_of_methodNamed Bd.named
  have X0 : Stand p l e ({ frames := 0, cells := 0, slots := 0, locals := 0 } : Room) s m #[(.ref p0), (.ref p1)] below meth c s₁ [] 0 0 := Stand.of_body Bd
  have e0 : s₁.heap = h0 := by rw [← hh, Bd.state]; rfl
  have N0 := Fr.nil n0
  have W1 := W0
  obtain ⟨SOFFER, EOFFER, SOFFER_Overview, EOFFER_Overview, SORDER, EORDER, FORDER_ordinal, FOFFER_Overview_ordinal, SORDER_StatusType, EORDER_StatusType, FOFFER_ordinal, FORDER_StatusType_ordinal, SACTUAL_COSTING, EACTUAL_COSTING, FACTUAL_COSTING_ordinal, SHISTORY, EHISTORY, FHISTORY_ordinal, -⟩ := W1
  have pre0 : ∀ t, Steps p.tables e below (s₁.setTop (mkF m 0 #[.val (.ref p0), .val (.ref p1)] [])) t → Steps p.tables e below (s₁.setTop (entryFrame m #[(.ref p0), (.ref p1)] 2)) t := fun t k => castTop (ef_2 m p0 p1) k
  obtain ⟨T13, X13, e13, st13⟩ := getS2 X0 hx hZ hown (host := "") (Or.inl (hw _ (List.mem_of_getElem? (i := 16) rfl))) Via.refl e0 SOFFER_Overview (g := (mkF m 1 #[.val (.ref p0), .val (.ref p1)] [(.ref p0)])) rfl (hb hby d2_1)
  have k14 : ∀ t, Steps p.tables e below (T13.setTop (mkF m 4 #[.val (.ref p0), .val (.ref p1)] [(.ref wOFFER_Overview), (.ref p0)])) t → Steps p.tables e below (s₁.setTop (entryFrame m #[(.ref p0), (.ref p1)] 2)) t := fun t kt => pre0 t (by
    show Steps p.tables e below (s₁.setTop (mkF m 0 #[.val (.ref p0), .val (.ref p1)] [])) _
    refine XS.aloadN X0.here hx rfl (hb hby d2_0) rfl rfl ?_
    show Steps p.tables e below (s₁.setTop (mkF m 1 #[.val (.ref p0), .val (.ref p1)] [(.ref p0)])) _
    refine st13 _ ?_
    exact kt)
  by_cases hc15 : p0 = wOFFER_Overview
  · obtain ⟨T16, X16, e16, st16⟩ := getS2 X13 hx hZ hown (host := "") (Or.inl (hw _ (List.mem_of_getElem? (i := 17) rfl))) Via.refl e13 SOFFER (g := (mkF m 8 #[.val (.ref p0), .val (.ref p1)] [(.ref p1)])) rfl (hb hby d2_8)
    have k17 : ∀ t, Steps p.tables e below (T16.setTop (mkF m 11 #[.val (.ref p0), .val (.ref p1)] [(.ref wOFFER), (.ref p1)])) t → Steps p.tables e below (s₁.setTop (entryFrame m #[(.ref p0), (.ref p1)] 2)) t := fun t kt => k14 t (by
      show Steps p.tables e below (T13.setTop (mkF m 4 #[.val (.ref p0), .val (.ref p1)] [(.ref wOFFER_Overview), (.ref p0)])) _
      refine Jvm.RoadKit.acmp (g := (mkF m 4 #[.val (.ref p0), .val (.ref p1)] [(.ref wOFFER_Overview), (.ref p0)])) X13 hx rfl rfl rfl (pc0 := 4) (pc' := 7) (same := true) rfl (hb hby d2_4) rfl (decide_eq_true (congrArg Value.ref (hc15 : p0 = wOFFER_Overview))) (by decide) (by decide) ?_
      show Steps p.tables e below (T13.setTop (mkF m 7 #[.val (.ref p0), .val (.ref p1)] [])) _
      refine XS.aloadN X13.here hx rfl (hb hby d2_7) rfl rfl ?_
      show Steps p.tables e below (T13.setTop (mkF m 8 #[.val (.ref p0), .val (.ref p1)] [(.ref p1)])) _
      refine st16 _ ?_
      exact kt)
    by_cases hc18 : p1 = wOFFER
    · obtain ⟨fs, hr, hrun, hended, hW, hsame⟩ := X16.leave (v := some (.int (1 : Int32))) (fun h => by rw [Bd.returns] at h; cases h)
      refine ⟨_, _, k17 _ ?_, hrun, hended, _, _, rfl, ?_, ⟨_, rfl⟩, hW, hsame.mono (by decide) (by decide)⟩
      · show Steps p.tables e below (T16.setTop (mkF m 11 #[.val (.ref p0), .val (.ref p1)] [(.ref wOFFER), (.ref p1)])) _
        refine Jvm.RoadKit.acmp (g := (mkF m 11 #[.val (.ref p0), .val (.ref p1)] [(.ref wOFFER), (.ref p1)])) X16 hx rfl rfl rfl (pc0 := 11) (pc' := 14) (same := true) rfl (hb hby d2_11) rfl (decide_eq_true (congrArg Value.ref (hc18 : p1 = wOFFER))) (by decide) (by decide) ?_
        show Steps p.tables e below (T16.setTop (mkF m 14 #[.val (.ref p0), .val (.ref p1)] [])) _
        refine XS.iconst X16.here hx rfl (hb hby d2_14) ?_
        show Steps p.tables e below (T16.setTop (mkF m 15 #[.val (.ref p0), .val (.ref p1)] [(.int (1 : Int32))])) _
        refine XS.goto X16.here hx rfl (pc0 := 15) (pc' := 41) rfl (hb hby d2_15) (by decide) (by decide) ?_
        show Steps p.tables e below (T16.setTop (mkF m 41 #[.val (.ref p0), .val (.ref p1)] [(.int (1 : Int32))])) _
        exact retN X16 hx (t := .boolean) Bd.returns (by simp) (hb hby d2_41) hr
      · show Q2 Z p0 p1 wOFFER wOFFER_Overview wORDER wORDER_StatusType wACTUAL_COSTING wHISTORY h0 n0 _ T16.heap _
        rw [e16]
        exact ⟨by rw [f2, if_pos hc15, if_pos hc18], N0, rfl⟩
    · obtain ⟨fs, hr, hrun, hended, hW, hsame⟩ := X16.leave (v := some (.int (0 : Int32))) (fun h => by rw [Bd.returns] at h; cases h)
      refine ⟨_, _, k17 _ ?_, hrun, hended, _, _, rfl, ?_, ⟨_, rfl⟩, hW, hsame.mono (by decide) (by decide)⟩
      · show Steps p.tables e below (T16.setTop (mkF m 11 #[.val (.ref p0), .val (.ref p1)] [(.ref wOFFER), (.ref p1)])) _
        refine Jvm.RoadKit.acmp (g := (mkF m 11 #[.val (.ref p0), .val (.ref p1)] [(.ref wOFFER), (.ref p1)])) X16 hx rfl rfl rfl (pc0 := 11) (pc' := 18) (same := false) rfl (hb hby d2_11) rfl (decide_eq_false fun q => (hc18 : ¬ (p1 = wOFFER)) (Value.ref.inj q)) (by decide) (by decide) ?_
        show Steps p.tables e below (T16.setTop (mkF m 18 #[.val (.ref p0), .val (.ref p1)] [])) _
        refine XS.iconst X16.here hx rfl (hb hby d2_18) ?_
        show Steps p.tables e below (T16.setTop (mkF m 19 #[.val (.ref p0), .val (.ref p1)] [(.int (0 : Int32))])) _
        refine XS.goto X16.here hx rfl (pc0 := 19) (pc' := 41) rfl (hb hby d2_19) (by decide) (by decide) ?_
        show Steps p.tables e below (T16.setTop (mkF m 41 #[.val (.ref p0), .val (.ref p1)] [(.int (0 : Int32))])) _
        exact retN X16 hx (t := .boolean) Bd.returns (by simp) (hb hby d2_41) hr
      · show Q2 Z p0 p1 wOFFER wOFFER_Overview wORDER wORDER_StatusType wACTUAL_COSTING wHISTORY h0 n0 _ T16.heap _
        rw [e16]
        exact ⟨by rw [f2, if_pos hc15, if_neg hc18], N0, rfl⟩
  · obtain ⟨T19, X19, e19, st19⟩ := getS2 X13 hx hZ hown (host := "") (Or.inl (hw _ (List.mem_of_getElem? (i := 20) rfl))) Via.refl e13 SORDER_StatusType (g := (mkF m 23 #[.val (.ref p0), .val (.ref p1)] [(.ref p1)])) rfl (hb hby d2_23)
    have k20 : ∀ t, Steps p.tables e below (T19.setTop (mkF m 26 #[.val (.ref p0), .val (.ref p1)] [(.ref wORDER_StatusType), (.ref p1)])) t → Steps p.tables e below (s₁.setTop (entryFrame m #[(.ref p0), (.ref p1)] 2)) t := fun t kt => k14 t (by
      show Steps p.tables e below (T13.setTop (mkF m 4 #[.val (.ref p0), .val (.ref p1)] [(.ref wOFFER_Overview), (.ref p0)])) _
      refine Jvm.RoadKit.acmp (g := (mkF m 4 #[.val (.ref p0), .val (.ref p1)] [(.ref wOFFER_Overview), (.ref p0)])) X13 hx rfl rfl rfl (pc0 := 4) (pc' := 22) (same := false) rfl (hb hby d2_4) rfl (decide_eq_false fun q => (hc15 : ¬ (p0 = wOFFER_Overview)) (Value.ref.inj q)) (by decide) (by decide) ?_
      show Steps p.tables e below (T13.setTop (mkF m 22 #[.val (.ref p0), .val (.ref p1)] [])) _
      refine XS.aloadN X13.here hx rfl (hb hby d2_22) rfl rfl ?_
      show Steps p.tables e below (T13.setTop (mkF m 23 #[.val (.ref p0), .val (.ref p1)] [(.ref p1)])) _
      refine st19 _ ?_
      exact kt)
    by_cases hc21 : p1 = wORDER_StatusType
    · obtain ⟨fs, hr, hrun, hended, hW, hsame⟩ := X19.leave (v := some (.int (1 : Int32))) (fun h => by rw [Bd.returns] at h; cases h)
      refine ⟨_, _, k20 _ ?_, hrun, hended, _, _, rfl, ?_, ⟨_, rfl⟩, hW, hsame.mono (by decide) (by decide)⟩
      · show Steps p.tables e below (T19.setTop (mkF m 26 #[.val (.ref p0), .val (.ref p1)] [(.ref wORDER_StatusType), (.ref p1)])) _
        refine Jvm.RoadKit.acmp (g := (mkF m 26 #[.val (.ref p0), .val (.ref p1)] [(.ref wORDER_StatusType), (.ref p1)])) X19 hx rfl rfl rfl (pc0 := 26) (pc' := 36) (same := true) rfl (hb hby d2_26) rfl (decide_eq_true (congrArg Value.ref (hc21 : p1 = wORDER_StatusType))) (by decide) (by decide) ?_
        show Steps p.tables e below (T19.setTop (mkF m 36 #[.val (.ref p0), .val (.ref p1)] [])) _
        refine XS.iconst X19.here hx rfl (hb hby d2_36) ?_
        show Steps p.tables e below (T19.setTop (mkF m 37 #[.val (.ref p0), .val (.ref p1)] [(.int (1 : Int32))])) _
        refine XS.goto X19.here hx rfl (pc0 := 37) (pc' := 41) rfl (hb hby d2_37) (by decide) (by decide) ?_
        show Steps p.tables e below (T19.setTop (mkF m 41 #[.val (.ref p0), .val (.ref p1)] [(.int (1 : Int32))])) _
        exact retN X19 hx (t := .boolean) Bd.returns (by simp) (hb hby d2_41) hr
      · show Q2 Z p0 p1 wOFFER wOFFER_Overview wORDER wORDER_StatusType wACTUAL_COSTING wHISTORY h0 n0 _ T19.heap _
        rw [e19]
        exact ⟨by rw [f2, if_neg hc15, if_pos hc21], N0, rfl⟩
    · obtain ⟨T22, X22, e22, st22⟩ := getS2 X19 hx hZ hown (host := "") (Or.inl (hw _ (List.mem_of_getElem? (i := 22) rfl))) Via.refl e19 SACTUAL_COSTING (g := (mkF m 30 #[.val (.ref p0), .val (.ref p1)] [(.ref p1)])) rfl (hb hby d2_30)
      have k23 : ∀ t, Steps p.tables e below (T22.setTop (mkF m 33 #[.val (.ref p0), .val (.ref p1)] [(.ref wACTUAL_COSTING), (.ref p1)])) t → Steps p.tables e below (s₁.setTop (entryFrame m #[(.ref p0), (.ref p1)] 2)) t := fun t kt => k20 t (by
        show Steps p.tables e below (T19.setTop (mkF m 26 #[.val (.ref p0), .val (.ref p1)] [(.ref wORDER_StatusType), (.ref p1)])) _
        refine Jvm.RoadKit.acmp (g := (mkF m 26 #[.val (.ref p0), .val (.ref p1)] [(.ref wORDER_StatusType), (.ref p1)])) X19 hx rfl rfl rfl (pc0 := 26) (pc' := 29) (same := false) rfl (hb hby d2_26) rfl (decide_eq_false fun q => (hc21 : ¬ (p1 = wORDER_StatusType)) (Value.ref.inj q)) (by decide) (by decide) ?_
        show Steps p.tables e below (T19.setTop (mkF m 29 #[.val (.ref p0), .val (.ref p1)] [])) _
        refine XS.aloadN X19.here hx rfl (hb hby d2_29) rfl rfl ?_
        show Steps p.tables e below (T19.setTop (mkF m 30 #[.val (.ref p0), .val (.ref p1)] [(.ref p1)])) _
        refine st22 _ ?_
        exact kt)
      by_cases hc24 : p1 = wACTUAL_COSTING
      · obtain ⟨fs, hr, hrun, hended, hW, hsame⟩ := X22.leave (v := some (.int (1 : Int32))) (fun h => by rw [Bd.returns] at h; cases h)
        refine ⟨_, _, k23 _ ?_, hrun, hended, _, _, rfl, ?_, ⟨_, rfl⟩, hW, hsame.mono (by decide) (by decide)⟩
        · show Steps p.tables e below (T22.setTop (mkF m 33 #[.val (.ref p0), .val (.ref p1)] [(.ref wACTUAL_COSTING), (.ref p1)])) _
          refine Jvm.RoadKit.acmp (g := (mkF m 33 #[.val (.ref p0), .val (.ref p1)] [(.ref wACTUAL_COSTING), (.ref p1)])) X22 hx rfl rfl rfl (pc0 := 33) (pc' := 36) (same := true) rfl (hb hby d2_33) rfl (decide_eq_true (congrArg Value.ref (hc24 : p1 = wACTUAL_COSTING))) (by decide) (by decide) ?_
          show Steps p.tables e below (T22.setTop (mkF m 36 #[.val (.ref p0), .val (.ref p1)] [])) _
          refine XS.iconst X22.here hx rfl (hb hby d2_36) ?_
          show Steps p.tables e below (T22.setTop (mkF m 37 #[.val (.ref p0), .val (.ref p1)] [(.int (1 : Int32))])) _
          refine XS.goto X22.here hx rfl (pc0 := 37) (pc' := 41) rfl (hb hby d2_37) (by decide) (by decide) ?_
          show Steps p.tables e below (T22.setTop (mkF m 41 #[.val (.ref p0), .val (.ref p1)] [(.int (1 : Int32))])) _
          exact retN X22 hx (t := .boolean) Bd.returns (by simp) (hb hby d2_41) hr
        · show Q2 Z p0 p1 wOFFER wOFFER_Overview wORDER wORDER_StatusType wACTUAL_COSTING wHISTORY h0 n0 _ T22.heap _
          rw [e22]
          exact ⟨by rw [f2, if_neg hc15, if_neg hc21, if_pos hc24], N0, rfl⟩
      · obtain ⟨fs, hr, hrun, hended, hW, hsame⟩ := X22.leave (v := some (.int (0 : Int32))) (fun h => by rw [Bd.returns] at h; cases h)
        refine ⟨_, _, k23 _ ?_, hrun, hended, _, _, rfl, ?_, ⟨_, rfl⟩, hW, hsame.mono (by decide) (by decide)⟩
        · show Steps p.tables e below (T22.setTop (mkF m 33 #[.val (.ref p0), .val (.ref p1)] [(.ref wACTUAL_COSTING), (.ref p1)])) _
          refine Jvm.RoadKit.acmp (g := (mkF m 33 #[.val (.ref p0), .val (.ref p1)] [(.ref wACTUAL_COSTING), (.ref p1)])) X22 hx rfl rfl rfl (pc0 := 33) (pc' := 40) (same := false) rfl (hb hby d2_33) rfl (decide_eq_false fun q => (hc24 : ¬ (p1 = wACTUAL_COSTING)) (Value.ref.inj q)) (by decide) (by decide) ?_
          show Steps p.tables e below (T22.setTop (mkF m 40 #[.val (.ref p0), .val (.ref p1)] [])) _
          refine XS.iconst X22.here hx rfl (hb hby d2_40) ?_
          show Steps p.tables e below (T22.setTop (mkF m 41 #[.val (.ref p0), .val (.ref p1)] [(.int (0 : Int32))])) _
          exact retN X22 hx (t := .boolean) Bd.returns (by simp) (hb hby d2_41) hr
        · show Q2 Z p0 p1 wOFFER wOFFER_Overview wORDER wORDER_StatusType wACTUAL_COSTING wHISTORY h0 n0 _ T22.heap _
          rw [e22]
          exact ⟨by rw [f2, if_neg hc15, if_neg hc21, if_neg hc24], N0, rfl⟩

def f3 (p0 : Addr) (wOFFER : Addr) (wOFFER_Overview : Addr) (wORDER : Addr) (wORDER_StatusType : Addr) (wACTUAL_COSTING : Addr) (wHISTORY : Addr) : Int32 := if p0 = wOFFER_Overview then (0 : Int32) else (0 : Int32)
theorem ef_3 (m : MethodId) (p0 : Addr) : entryFrame m #[(.ref p0), .null] 2 = mkF m 0 #[.val (.ref p0), .val .null] [] := by first | (simp [entryFrame, mkF, argsToLocals, Value.category]; done) | rfl
def Q3 (Z : State) (p0 : Addr) (wOFFER : Addr) (wOFFER_Overview : Addr) (wORDER : Addr) (wORDER_StatusType : Addr) (wACTUAL_COSTING : Addr) (wHISTORY : Addr) (h0 : Heap) (n0 : Nat) (v : Option Value) (h : Heap) (L : List Loc) : Prop := v = some (.int (f3 p0 wOFFER wOFFER_Overview wORDER wORDER_StatusType wACTUAL_COSTING wHISTORY)) ∧ Fr n0 L ∧ h = h0
set_option maxRecDepth 65536 in
set_option maxHeartbeats 40000000 in
theorem rm3 (l : Launch) (Z : State) (a0 : Array Value) (hw : ∀ d ∈ tables_1, d.before a0 Z = true) (ws : List Jvm.Cond) (p0 : Addr) (wOFFER : Addr) (wOFFER_Overview : Addr) (wORDER : Addr) (wORDER_StatusType : Addr) (wACTUAL_COSTING : Addr) (wHISTORY : Addr) (h0 : Heap) (n0 : Nat) (Z0 : n0 ≤ h0.size) (W0 : World Z h0 wOFFER wOFFER_Overview wORDER wORDER_StatusType wACTUAL_COSTING wHISTORY) :
    MetFree l (⟨"com/example/milepost/milepost/status/Overview", "owns", "(Lcom/example/milepost/milepost/status/StatusType;)Z"⟩ : MethodName) (head1 (Jvm.Cond.code (⟨"com/example/milepost/milepost/status/Overview", "owns", "(Lcom/example/milepost/milepost/status/StatusType;)Z"⟩ : MethodName) prog_84_method_8_code 2 (some .boolean) :: ws) ({ frames := 0, cells := 0, slots := 0, locals := 0 } : Room)) (fun a U => a = #[(.ref p0), .null] ∧ Z.Warmed39 U.vm ∧ U.heap = h0) (fun _ _ _ _ _ => True) (fun _ U o U' => ∃ v L, o = .returned v ∧ Q3 Z p0 wOFFER wOFFER_Overview wORDER wORDER_StatusType wACTUAL_COSTING wHISTORY h0 n0 v U'.heap L ∧ FrameEnd U o U' L ({ frames := 0, cells := 0, slots := 0, locals := 0 } : Room).cells ({ frames := 0, cells := 0, slots := 0, locals := 0 } : Room).slots) := by
  refine MetFree.of_bodySF (plainFor_of_name pn_1) hisR ?_
  intro p e s m args below meth c s₁ Bd hml0 hP hK
  obtain ⟨rfl, hZ, hh⟩ := hP
  have hx := Bd.exec
  have hby := Bd.bytes
  have hml : c.maxLocals = 2 := hml0
  have hown : s.vm.findClass "com/example/milepost/milepost/status/Overview" = some m.cls := findClass_of_methodNamed Bd.named
  have X0 : Stand p l e ({ frames := 0, cells := 0, slots := 0, locals := 0 } : Room) s m #[(.ref p0), .null] below meth c s₁ [] 0 0 := Stand.of_body Bd
  have e0 : s₁.heap = h0 := by rw [← hh, Bd.state]; rfl
  have N0 := Fr.nil n0
  have W1 := W0
  obtain ⟨SOFFER, EOFFER, SOFFER_Overview, EOFFER_Overview, SORDER, EORDER, FORDER_ordinal, FOFFER_Overview_ordinal, SORDER_StatusType, EORDER_StatusType, FOFFER_ordinal, FORDER_StatusType_ordinal, SACTUAL_COSTING, EACTUAL_COSTING, FACTUAL_COSTING_ordinal, SHISTORY, EHISTORY, FHISTORY_ordinal, -⟩ := W1
  have pre0 : ∀ t, Steps p.tables e below (s₁.setTop (mkF m 0 #[.val (.ref p0), .val .null] [])) t → Steps p.tables e below (s₁.setTop (entryFrame m #[(.ref p0), .null] 2)) t := fun t k => castTop (ef_3 m p0) k
  obtain ⟨T25, X25, e25, st25⟩ := getS2 X0 hx hZ hown (host := "") (Or.inl (hw _ (List.mem_of_getElem? (i := 16) rfl))) Via.refl e0 SOFFER_Overview (g := (mkF m 1 #[.val (.ref p0), .val .null] [(.ref p0)])) rfl (hb hby d2_1)
  have k26 : ∀ t, Steps p.tables e below (T25.setTop (mkF m 4 #[.val (.ref p0), .val .null] [(.ref wOFFER_Overview), (.ref p0)])) t → Steps p.tables e below (s₁.setTop (entryFrame m #[(.ref p0), .null] 2)) t := fun t kt => pre0 t (by
    show Steps p.tables e below (s₁.setTop (mkF m 0 #[.val (.ref p0), .val .null] [])) _
    refine XS.aloadN X0.here hx rfl (hb hby d2_0) rfl rfl ?_
    show Steps p.tables e below (s₁.setTop (mkF m 1 #[.val (.ref p0), .val .null] [(.ref p0)])) _
    refine st25 _ ?_
    exact kt)
  by_cases hc27 : p0 = wOFFER_Overview
  · obtain ⟨T28, X28, e28, st28⟩ := getS2 X25 hx hZ hown (host := "") (Or.inl (hw _ (List.mem_of_getElem? (i := 17) rfl))) Via.refl e25 SOFFER (g := (mkF m 8 #[.val (.ref p0), .val .null] [.null])) rfl (hb hby d2_8)
    obtain ⟨fs, hr, hrun, hended, hW, hsame⟩ := X28.leave (v := some (.int (0 : Int32))) (fun h => by rw [Bd.returns] at h; cases h)
    refine ⟨_, _, k26 _ ?_, hrun, hended, _, _, rfl, ?_, ⟨_, rfl⟩, hW, hsame.mono (by decide) (by decide)⟩
    · show Steps p.tables e below (T25.setTop (mkF m 4 #[.val (.ref p0), .val .null] [(.ref wOFFER_Overview), (.ref p0)])) _
      refine Jvm.RoadKit.acmp (g := (mkF m 4 #[.val (.ref p0), .val .null] [(.ref wOFFER_Overview), (.ref p0)])) X25 hx rfl rfl rfl (pc0 := 4) (pc' := 7) (same := true) rfl (hb hby d2_4) rfl (decide_eq_true (congrArg Value.ref (hc27 : p0 = wOFFER_Overview))) (by decide) (by decide) ?_
      show Steps p.tables e below (T25.setTop (mkF m 7 #[.val (.ref p0), .val .null] [])) _
      refine XS.aloadN X25.here hx rfl (hb hby d2_7) rfl rfl ?_
      show Steps p.tables e below (T25.setTop (mkF m 8 #[.val (.ref p0), .val .null] [.null])) _
      refine st28 _ ?_
      show Steps p.tables e below (T28.setTop (mkF m 11 #[.val (.ref p0), .val .null] [(.ref wOFFER), .null])) _
      refine Jvm.RoadKit.acmp (g := (mkF m 11 #[.val (.ref p0), .val .null] [(.ref wOFFER), .null])) X28 hx rfl rfl rfl (pc0 := 11) (pc' := 18) (same := false) rfl (hb hby d2_11) rfl (decide_eq_false nofun) (by decide) (by decide) ?_
      show Steps p.tables e below (T28.setTop (mkF m 18 #[.val (.ref p0), .val .null] [])) _
      refine XS.iconst X28.here hx rfl (hb hby d2_18) ?_
      show Steps p.tables e below (T28.setTop (mkF m 19 #[.val (.ref p0), .val .null] [(.int (0 : Int32))])) _
      refine XS.goto X28.here hx rfl (pc0 := 19) (pc' := 41) rfl (hb hby d2_19) (by decide) (by decide) ?_
      show Steps p.tables e below (T28.setTop (mkF m 41 #[.val (.ref p0), .val .null] [(.int (0 : Int32))])) _
      exact retN X28 hx (t := .boolean) Bd.returns (by simp) (hb hby d2_41) hr
    · show Q3 Z p0 wOFFER wOFFER_Overview wORDER wORDER_StatusType wACTUAL_COSTING wHISTORY h0 n0 _ T28.heap _
      rw [e28]
      exact ⟨by rw [f3, if_pos hc27], N0, rfl⟩
  · obtain ⟨T29, X29, e29, st29⟩ := getS2 X25 hx hZ hown (host := "") (Or.inl (hw _ (List.mem_of_getElem? (i := 20) rfl))) Via.refl e25 SORDER_StatusType (g := (mkF m 23 #[.val (.ref p0), .val .null] [.null])) rfl (hb hby d2_23)
    obtain ⟨T30, X30, e30, st30⟩ := getS2 X29 hx hZ hown (host := "") (Or.inl (hw _ (List.mem_of_getElem? (i := 22) rfl))) Via.refl e29 SACTUAL_COSTING (g := (mkF m 30 #[.val (.ref p0), .val .null] [.null])) rfl (hb hby d2_30)
    obtain ⟨fs, hr, hrun, hended, hW, hsame⟩ := X30.leave (v := some (.int (0 : Int32))) (fun h => by rw [Bd.returns] at h; cases h)
    refine ⟨_, _, k26 _ ?_, hrun, hended, _, _, rfl, ?_, ⟨_, rfl⟩, hW, hsame.mono (by decide) (by decide)⟩
    · show Steps p.tables e below (T25.setTop (mkF m 4 #[.val (.ref p0), .val .null] [(.ref wOFFER_Overview), (.ref p0)])) _
      refine Jvm.RoadKit.acmp (g := (mkF m 4 #[.val (.ref p0), .val .null] [(.ref wOFFER_Overview), (.ref p0)])) X25 hx rfl rfl rfl (pc0 := 4) (pc' := 22) (same := false) rfl (hb hby d2_4) rfl (decide_eq_false fun q => (hc27 : ¬ (p0 = wOFFER_Overview)) (Value.ref.inj q)) (by decide) (by decide) ?_
      show Steps p.tables e below (T25.setTop (mkF m 22 #[.val (.ref p0), .val .null] [])) _
      refine XS.aloadN X25.here hx rfl (hb hby d2_22) rfl rfl ?_
      show Steps p.tables e below (T25.setTop (mkF m 23 #[.val (.ref p0), .val .null] [.null])) _
      refine st29 _ ?_
      show Steps p.tables e below (T29.setTop (mkF m 26 #[.val (.ref p0), .val .null] [(.ref wORDER_StatusType), .null])) _
      refine Jvm.RoadKit.acmp (g := (mkF m 26 #[.val (.ref p0), .val .null] [(.ref wORDER_StatusType), .null])) X29 hx rfl rfl rfl (pc0 := 26) (pc' := 29) (same := false) rfl (hb hby d2_26) rfl (decide_eq_false nofun) (by decide) (by decide) ?_
      show Steps p.tables e below (T29.setTop (mkF m 29 #[.val (.ref p0), .val .null] [])) _
      refine XS.aloadN X29.here hx rfl (hb hby d2_29) rfl rfl ?_
      show Steps p.tables e below (T29.setTop (mkF m 30 #[.val (.ref p0), .val .null] [.null])) _
      refine st30 _ ?_
      show Steps p.tables e below (T30.setTop (mkF m 33 #[.val (.ref p0), .val .null] [(.ref wACTUAL_COSTING), .null])) _
      refine Jvm.RoadKit.acmp (g := (mkF m 33 #[.val (.ref p0), .val .null] [(.ref wACTUAL_COSTING), .null])) X30 hx rfl rfl rfl (pc0 := 33) (pc' := 40) (same := false) rfl (hb hby d2_33) rfl (decide_eq_false nofun) (by decide) (by decide) ?_
      show Steps p.tables e below (T30.setTop (mkF m 40 #[.val (.ref p0), .val .null] [])) _
      refine XS.iconst X30.here hx rfl (hb hby d2_40) ?_
      show Steps p.tables e below (T30.setTop (mkF m 41 #[.val (.ref p0), .val .null] [(.int (0 : Int32))])) _
      exact retN X30 hx (t := .boolean) Bd.returns (by simp) (hb hby d2_41) hr
    · show Q3 Z p0 wOFFER wOFFER_Overview wORDER wORDER_StatusType wACTUAL_COSTING wHISTORY h0 n0 _ T30.heap _
      rw [e30]
      exact ⟨by rw [f3, if_neg hc27], N0, rfl⟩
theorem pd_0 : parseMethodDescriptor "(I)Lcom/example/milepost/milepost/status/StatusType;" = some ⟨[.int], some (.object "com/example/milepost/milepost/status/StatusType")⟩ := by decide +kernel
theorem pd_1 : parseMethodDescriptor "(Lcom/example/milepost/milepost/status/StatusType;)Z" = some ⟨[(.object "com/example/milepost/milepost/status/StatusType")], some .boolean⟩ := by decide +kernel
theorem ef_0 (m : MethodId) (p0 : Int32) : entryFrame m #[(.int p0)] maxLocals = mkF m 0 #[.val (.int p0), .unset, .unset, .unset, .unset, .unset, .unset] [] := by first | (simp [entryFrame, mkF, argsToLocals, Value.category, maxLocals]; done) | rfl
def Q0 (Z : State) (p0 : Int32) (wOFFER : Addr) (wOFFER_Overview : Addr) (wORDER : Addr) (wORDER_StatusType : Addr) (wACTUAL_COSTING : Addr) (wHISTORY : Addr) (h0 : Heap) (n0 : Nat) (v : Option Value) (h : Heap) (L : List Loc) : Prop := v = some (.int 1) ∧ Fr n0 L
set_option maxRecDepth 65536 in
set_option maxHeartbeats 40000000 in
theorem rm0 (l : Launch) (Z : State) (a0 : Array Value) (hw : ∀ d ∈ tables_1, d.before a0 Z = true) (ws : List Jvm.Cond) (p0 : Int32) (wOFFER : Addr) (wOFFER_Overview : Addr) (wORDER : Addr) (wORDER_StatusType : Addr) (wACTUAL_COSTING : Addr) (wHISTORY : Addr) (h0 : Heap) (n0 : Nat) (Z0 : n0 ≤ h0.size) (W0 : World Z h0 wOFFER wOFFER_Overview wORDER wORDER_StatusType wACTUAL_COSTING wHISTORY) :
    MetFree l x (head1 (Jvm.Cond.code x code maxLocals ret :: ws) room_1) (fun a U => a = #[(.int p0)] ∧ Z.Warmed39 U.vm ∧ U.heap = h0) (fun _ _ _ _ _ => True) (fun _ U o U' => ∃ v L, o = .returned v ∧ Q0 Z p0 wOFFER wOFFER_Overview wORDER wORDER_StatusType wACTUAL_COSTING wHISTORY h0 n0 v U'.heap L ∧ FrameEnd U o U' L room_1.cells room_1.slots) := by
  refine MetFree.of_bodySF (plainFor_of_name pn_0) hisR ?_
  intro p e s m args below meth c s₁ Bd hml0 hP hK
  obtain ⟨rfl, hZ, hh⟩ := hP
  have hx := Bd.exec
  have hby := Bd.bytes
  have hml : c.maxLocals = 7 := hml0
  have hown : s.vm.findClass "com/example/milepost/milepost/status/OverviewOwnsPinLaw" = some m.cls := findClass_of_methodNamed Bd.named
  have X0 : Stand p l e room_1 s m #[(.int p0)] below meth c s₁ [] 0 0 := Stand.of_body Bd
  have e0 : s₁.heap = h0 := by rw [← hh, Bd.state]; rfl
  have N0 := Fr.nil n0
  have W1 := W0
  obtain ⟨SOFFER, EOFFER, SOFFER_Overview, EOFFER_Overview, SORDER, EORDER, FORDER_ordinal, FOFFER_Overview_ordinal, SORDER_StatusType, EORDER_StatusType, FOFFER_ordinal, FORDER_StatusType_ordinal, SACTUAL_COSTING, EACTUAL_COSTING, FACTUAL_COSTING_ordinal, SHISTORY, EHISTORY, FHISTORY_ordinal, -⟩ := W1
  have pre0 : ∀ t, Steps p.tables e below (s₁.setTop (mkF m 0 #[.val (.int p0), .unset, .unset, .unset, .unset, .unset, .unset] [])) t → Steps p.tables e below (s₁.setTop (entryFrame m #[(.int p0)] maxLocals)) t := fun t k => castTop (ef_0 m p0) k
  obtain ⟨i31, hi31⟩ : ∃ z, z = ((p0 &&& (2147483647 : Int32)) % (5 : Int32)) := ⟨_, rfl⟩
  have k32 : ∀ t, Steps p.tables e below (s₁.setTop (mkF m 7 #[.val (.int p0), .val (.int i31), .unset, .unset, .unset, .unset, .unset] [])) t → Steps p.tables e below (s₁.setTop (entryFrame m #[(.int p0)] maxLocals)) t := fun t kt => pre0 t (by
    show Steps p.tables e below (s₁.setTop (mkF m 0 #[.val (.int p0), .unset, .unset, .unset, .unset, .unset, .unset] [])) _
    refine XS.iloadN X0.here hx rfl (hb hby at_0) rfl ?_
    show Steps p.tables e below (s₁.setTop (mkF m 1 #[.val (.int p0), .unset, .unset, .unset, .unset, .unset, .unset] [(.int p0)])) _
    refine X0.ldcInt hx hown (mvT hZ (hw _ (List.mem_of_getElem? (i := 0) rfl))) (g := (mkF m 1 #[.val (.int p0), .unset, .unset, .unset, .unset, .unset, .unset] [(.int p0)])) rfl (hb hby at_1) _ ?_
    show Steps p.tables e below (s₁.setTop (mkF m 3 #[.val (.int p0), .unset, .unset, .unset, .unset, .unset, .unset] [(.int (2147483647 : Int32)), (.int p0)])) _
    refine XS.iand X0.here hx rfl (hb hby at_3) rfl ?_
    show Steps p.tables e below (s₁.setTop (mkF m 4 #[.val (.int p0), .unset, .unset, .unset, .unset, .unset, .unset] [(.int (p0 &&& (2147483647 : Int32)))])) _
    refine XS.iconst X0.here hx rfl (hb hby at_4) ?_
    show Steps p.tables e below (s₁.setTop (mkF m 5 #[.val (.int p0), .unset, .unset, .unset, .unset, .unset, .unset] [(.int (5 : Int32)), (.int (p0 &&& (2147483647 : Int32)))])) _
    refine iremM X0 hx rfl (hb hby at_5) rfl (by decide) ?_
    rw [← hi31]
    show Steps p.tables e below (s₁.setTop (mkF m 6 #[.val (.int p0), .unset, .unset, .unset, .unset, .unset, .unset] [(.int i31)])) _
    refine XS.istoreN X0.here hx rfl (hb hby at_6) rfl (l' := #[.val (.int p0), .val (.int i31), .unset, .unset, .unset, .unset, .unset]) rfl ?_
    exact kt)
  rcases own_cases5 hi31 with hv33 | hv33 | hv33 | hv33 | hv33
  · subst hv33
    obtain ⟨_, _, ⟨T34, L34, k34, n34⟩, -, X34, ⟨Lc34, hQ34, l34, y34, z34⟩, st34⟩ := Jvm.LawKit.callS X0 hx (y := (⟨"com/example/milepost/milepost/status/OverviewOwnsPinLaw", "typeOf", "(I)Lcom/example/milepost/milepost/status/StatusType;"⟩ : MethodName)) hown (mvT hZ (hw _ (List.mem_of_getElem? (i := 1) rfl))) (mvT hZ (hw _ (List.mem_of_getElem? (i := 2) rfl))) (mvT hZ (hw _ (List.mem_of_getElem? (i := 3) rfl))) (mvT hZ (hw _ (List.mem_of_getElem? (i := 4) rfl))) (by decide) (backOf (W := 0) (rm1 l Z a0 hw [] (0 : Int32) wOFFER wOFFER_Overview wORDER wORDER_StatusType wACTUAL_COSTING wHISTORY h0 n0 Z0 W0 ) hZ (hw _ (List.mem_of_getElem? (i := 4) rfl)) (hw _ (List.mem_of_getElem? (i := 3) rfl)) (by decide) (by decide)) (g := (mkF m 8 #[.val (.int p0), .val (.int (0 : Int32)), .unset, .unset, .unset, .unset, .unset] [(.int (0 : Int32))])) rfl (by rw [hml]; rfl) (argsL := [(.int (0 : Int32))]) (rest := []) (lenOf pd_0 rfl) rfl (by show 2 * 0 + _ ≤ _; exact Nat.le_of_eq rfl) (hb hby at_8) (fun _ _ => ⟨rfl, e0, (by decide : 0 + 0 ≤ _), (by decide : 0 + 0 ≤ _)⟩)
    dsimp only [Pt.U, Pt.locs, Pt.cells, Pt.slots] at X34 l34 y34 z34 st34 hQ34
    subst l34 y34 z34
    unfold Q1 at hQ34
    have k35 : ∀ t, Steps p.tables e below (s₁.setTop (mkF m 8 #[.val (.int p0), .val (.int (0 : Int32)), .unset, .unset, .unset, .unset, .unset] [(.int (0 : Int32))])) t → Steps p.tables e below (s₁.setTop (entryFrame m #[(.int p0)] maxLocals)) t := fun t kt => k32 t (by
      show Steps p.tables e below (s₁.setTop (mkF m 7 #[.val (.int p0), .val (.int (0 : Int32)), .unset, .unset, .unset, .unset, .unset] [])) _
      refine XS.iloadN X0.here hx rfl (hb hby at_7) rfl ?_
      exact kt)
    rw [((by rw [f1, if_pos (rfl : (0 : Int32) = (0 : Int32))]) : (f1 (0 : Int32) wOFFER wOFFER_Overview wORDER wORDER_StatusType wACTUAL_COSTING wHISTORY) = (.ref wOFFER))] at hQ34
    obtain ⟨rfl, N34q, e34⟩ := hQ34
    have N34 := Fr.app N0 N34q
    obtain ⟨T36, X36, e36, st36⟩ := getS2 X34 hx hZ hown (host := "") (Or.inl (hw _ (List.mem_of_getElem? (i := 8) rfl))) Via.refl e34 SOFFER_Overview (g := (mkF m 42 #[.val (.int p0), .val (.int (0 : Int32)), .val (.ref wOFFER), .val (.int (1 : Int32)), .val (.int (0 : Int32)), .unset, .unset] [])) rfl (hb hby at_42)
    obtain ⟨cq37, kq37, q37a, q37b, q37c⟩ := isOf hZ e36 EOFFER_Overview
    obtain ⟨_, _, ⟨T37, L37, k37, n37⟩, -, X37, ⟨Lc37, hQ37, l37, y37, z37⟩, st37⟩ := X36.virtualBack hx (y := (⟨"com/example/milepost/milepost/status/Overview", "owns", "(Lcom/example/milepost/milepost/status/StatusType;)Z"⟩ : MethodName)) (z := (⟨"com/example/milepost/milepost/status/Overview", "owns", "(Lcom/example/milepost/milepost/status/StatusType;)Z"⟩ : MethodName)) hown (mvT hZ (hw _ (List.mem_of_getElem? (i := 11) rfl))) (mvT hZ (hw _ (List.mem_of_getElem? (i := 12) rfl))) (notFace_of_selects (args := #[]) (mvT hZ (hw _ (List.mem_of_getElem? (i := 14) rfl)))) (mvT hZ (hw _ (List.mem_of_getElem? (i := 14) rfl))) (mvT hZ (hw _ (List.mem_of_getElem? (i := 13) rfl))) (by decide) (backOf (W := 0) (rm2 l Z a0 hw [] wOFFER_Overview wOFFER wOFFER wOFFER_Overview wORDER wORDER_StatusType wACTUAL_COSTING wHISTORY h0 n0 Z0 W0 ) hZ (hw _ (List.mem_of_getElem? (i := 15) rfl)) (hw _ (List.mem_of_getElem? (i := 9) rfl)) (by decide) (by decide)) q37a q37c (g := (mkF m 46 #[.val (.int p0), .val (.int (0 : Int32)), .val (.ref wOFFER), .val (.int (1 : Int32)), .val (.int (0 : Int32)), .unset, .unset] [(.ref wOFFER), (.ref wOFFER_Overview)])) rfl (by rw [hml]; rfl) (Steps.refl _) (argsL := [(.ref wOFFER)]) (rest := []) (lenOf pd_1 rfl) rfl (by show 2 * 0 + _ ≤ _; exact Nat.le_of_eq rfl) (hb hby at_46) (fun _ _ => ⟨rfl, e36, (by decide : 0 + 0 ≤ _), (by decide : 0 + 0 ≤ _)⟩)
    dsimp only [Pt.U, Pt.locs, Pt.cells, Pt.slots] at X37 l37 y37 z37 st37 hQ37
    subst l37 y37 z37
    unfold Q2 at hQ37
    have k38 : ∀ t, Steps p.tables e below (T36.setTop (mkF m 46 #[.val (.int p0), .val (.int (0 : Int32)), .val (.ref wOFFER), .val (.int (1 : Int32)), .val (.int (0 : Int32)), .unset, .unset] [(.ref wOFFER), (.ref wOFFER_Overview)])) t → Steps p.tables e below (s₁.setTop (entryFrame m #[(.int p0)] maxLocals)) t := fun t kt => k35 t (by
      show Steps p.tables e below (s₁.setTop (mkF m 8 #[.val (.int p0), .val (.int (0 : Int32)), .unset, .unset, .unset, .unset, .unset] [(.int (0 : Int32))])) _
      refine st34 _ ?_
      show Steps p.tables e below (T34.setTop (mkF m 11 #[.val (.int p0), .val (.int (0 : Int32)), .unset, .unset, .unset, .unset, .unset] [(.ref wOFFER)])) _
      refine XS.astoreN X34.here hx rfl (hb hby at_11) rfl rfl (l' := #[.val (.int p0), .val (.int (0 : Int32)), .val (.ref wOFFER), .unset, .unset, .unset, .unset]) rfl ?_
      show Steps p.tables e below (T34.setTop (mkF m 12 #[.val (.int p0), .val (.int (0 : Int32)), .val (.ref wOFFER), .unset, .unset, .unset, .unset] [])) _
      refine XS.iconst X34.here hx rfl (hb hby at_12) ?_
      show Steps p.tables e below (T34.setTop (mkF m 13 #[.val (.int p0), .val (.int (0 : Int32)), .val (.ref wOFFER), .unset, .unset, .unset, .unset] [(.int (1 : Int32))])) _
      refine XS.iloadN X34.here hx rfl (hb hby at_13) rfl ?_
      show Steps p.tables e below (T34.setTop (mkF m 14 #[.val (.int p0), .val (.int (0 : Int32)), .val (.ref wOFFER), .unset, .unset, .unset, .unset] [(.int (0 : Int32)), (.int (1 : Int32))])) _
      refine XS.ishr X34.here hx rfl (hb hby at_14) rfl ?_
      show Steps p.tables e below (T34.setTop (mkF m 15 #[.val (.int p0), .val (.int (0 : Int32)), .val (.ref wOFFER), .unset, .unset, .unset, .unset] [(.int ((1 : Int32) >>> ((0 : Int32) &&& 31)))])) _
      refine XS.iconst X34.here hx rfl (hb hby at_15) ?_
      show Steps p.tables e below (T34.setTop (mkF m 16 #[.val (.int p0), .val (.int (0 : Int32)), .val (.ref wOFFER), .unset, .unset, .unset, .unset] [(.int (1 : Int32)), (.int ((1 : Int32) >>> ((0 : Int32) &&& 31)))])) _
      refine XS.iand X34.here hx rfl (hb hby at_16) rfl ?_
      show Steps p.tables e below (T34.setTop (mkF m 17 #[.val (.int p0), .val (.int (0 : Int32)), .val (.ref wOFFER), .unset, .unset, .unset, .unset] [(.int (((1 : Int32) >>> ((0 : Int32) &&& 31)) &&& (1 : Int32)))])) _
      refine XS.ifNo X34.here hx rfl (hb hby at_17) rfl ((if0 _ _).trans (feq ((by decide) : ¬ ((((1 : Int32) >>> ((0 : Int32) &&& 31)) &&& (1 : Int32)) = (0 : Int32)))).1) ?_
      show Steps p.tables e below (T34.setTop (mkF m 20 #[.val (.int p0), .val (.int (0 : Int32)), .val (.ref wOFFER), .unset, .unset, .unset, .unset] [])) _
      refine XS.iconst X34.here hx rfl (hb hby at_20) ?_
      show Steps p.tables e below (T34.setTop (mkF m 21 #[.val (.int p0), .val (.int (0 : Int32)), .val (.ref wOFFER), .unset, .unset, .unset, .unset] [(.int (1 : Int32))])) _
      refine XS.goto X34.here hx rfl (pc0 := 21) (pc' := 25) rfl (hb hby at_21) (by decide) (by decide) ?_
      show Steps p.tables e below (T34.setTop (mkF m 25 #[.val (.int p0), .val (.int (0 : Int32)), .val (.ref wOFFER), .unset, .unset, .unset, .unset] [(.int (1 : Int32))])) _
      refine XS.istoreN X34.here hx rfl (hb hby at_25) rfl (l' := #[.val (.int p0), .val (.int (0 : Int32)), .val (.ref wOFFER), .val (.int (1 : Int32)), .unset, .unset, .unset]) rfl ?_
      show Steps p.tables e below (T34.setTop (mkF m 26 #[.val (.int p0), .val (.int (0 : Int32)), .val (.ref wOFFER), .val (.int (1 : Int32)), .unset, .unset, .unset] [])) _
      refine XS.bipush X34.here hx rfl (hb hby at_26) ?_
      show Steps p.tables e below (T34.setTop (mkF m 28 #[.val (.int p0), .val (.int (0 : Int32)), .val (.ref wOFFER), .val (.int (1 : Int32)), .unset, .unset, .unset] [(.int (6 : Int32))])) _
      refine XS.iloadN X34.here hx rfl (hb hby at_28) rfl ?_
      show Steps p.tables e below (T34.setTop (mkF m 29 #[.val (.int p0), .val (.int (0 : Int32)), .val (.ref wOFFER), .val (.int (1 : Int32)), .unset, .unset, .unset] [(.int (0 : Int32)), (.int (6 : Int32))])) _
      refine XS.ishr X34.here hx rfl (hb hby at_29) rfl ?_
      show Steps p.tables e below (T34.setTop (mkF m 30 #[.val (.int p0), .val (.int (0 : Int32)), .val (.ref wOFFER), .val (.int (1 : Int32)), .unset, .unset, .unset] [(.int ((6 : Int32) >>> ((0 : Int32) &&& 31)))])) _
      refine XS.iconst X34.here hx rfl (hb hby at_30) ?_
      show Steps p.tables e below (T34.setTop (mkF m 31 #[.val (.int p0), .val (.int (0 : Int32)), .val (.ref wOFFER), .val (.int (1 : Int32)), .unset, .unset, .unset] [(.int (1 : Int32)), (.int ((6 : Int32) >>> ((0 : Int32) &&& 31)))])) _
      refine XS.iand X34.here hx rfl (hb hby at_31) rfl ?_
      show Steps p.tables e below (T34.setTop (mkF m 32 #[.val (.int p0), .val (.int (0 : Int32)), .val (.ref wOFFER), .val (.int (1 : Int32)), .unset, .unset, .unset] [(.int (((6 : Int32) >>> ((0 : Int32) &&& 31)) &&& (1 : Int32)))])) _
      refine XS.ifYes X34.here hx rfl (pc0 := 32) (pc' := 39) rfl (hb hby at_32) rfl ((if0 _ _).trans (teq ((by decide) : (((6 : Int32) >>> ((0 : Int32) &&& 31)) &&& (1 : Int32)) = (0 : Int32))).1) (by decide) (by decide) ?_
      show Steps p.tables e below (T34.setTop (mkF m 39 #[.val (.int p0), .val (.int (0 : Int32)), .val (.ref wOFFER), .val (.int (1 : Int32)), .unset, .unset, .unset] [])) _
      refine XS.iconst X34.here hx rfl (hb hby at_39) ?_
      show Steps p.tables e below (T34.setTop (mkF m 40 #[.val (.int p0), .val (.int (0 : Int32)), .val (.ref wOFFER), .val (.int (1 : Int32)), .unset, .unset, .unset] [(.int (0 : Int32))])) _
      refine XS.istore X34.here hx rfl (hb hby at_40) rfl (l' := #[.val (.int p0), .val (.int (0 : Int32)), .val (.ref wOFFER), .val (.int (1 : Int32)), .val (.int (0 : Int32)), .unset, .unset]) rfl ?_
      show Steps p.tables e below (T34.setTop (mkF m 42 #[.val (.int p0), .val (.int (0 : Int32)), .val (.ref wOFFER), .val (.int (1 : Int32)), .val (.int (0 : Int32)), .unset, .unset] [])) _
      refine st36 _ ?_
      show Steps p.tables e below (T36.setTop (mkF m 45 #[.val (.int p0), .val (.int (0 : Int32)), .val (.ref wOFFER), .val (.int (1 : Int32)), .val (.int (0 : Int32)), .unset, .unset] [(.ref wOFFER_Overview)])) _
      refine XS.aloadN X36.here hx rfl (hb hby at_45) rfl rfl ?_
      exact kt)
    rw [((by rw [f2, if_pos (rfl : wOFFER_Overview = wOFFER_Overview), if_pos (rfl : wOFFER = wOFFER)]) : (f2 wOFFER_Overview wOFFER wOFFER wOFFER_Overview wORDER wORDER_StatusType wACTUAL_COSTING wHISTORY) = (1 : Int32))] at hQ37
    obtain ⟨rfl, N37q, e37⟩ := hQ37
    have N37 := Fr.app N34 N37q
    obtain ⟨T39, X39, e39, st39⟩ := getS2 X37 hx hZ hown (host := "") (Or.inl (hw _ (List.mem_of_getElem? (i := 18) rfl))) Via.refl e37 SORDER (g := (mkF m 51 #[.val (.int p0), .val (.int (0 : Int32)), .val (.ref wOFFER), .val (.int (1 : Int32)), .val (.int (0 : Int32)), .val (.int (1 : Int32)), .unset] [])) rfl (hb hby at_51)
    obtain ⟨cq40, kq40, q40a, q40b, q40c⟩ := isOf hZ e39 EORDER
    obtain ⟨_, _, ⟨T40, L40, k40, n40⟩, -, X40, ⟨Lc40, hQ40, l40, y40, z40⟩, st40⟩ := X39.virtualBack hx (y := (⟨"com/example/milepost/milepost/status/Overview", "owns", "(Lcom/example/milepost/milepost/status/StatusType;)Z"⟩ : MethodName)) (z := (⟨"com/example/milepost/milepost/status/Overview", "owns", "(Lcom/example/milepost/milepost/status/StatusType;)Z"⟩ : MethodName)) hown (mvT hZ (hw _ (List.mem_of_getElem? (i := 11) rfl))) (mvT hZ (hw _ (List.mem_of_getElem? (i := 12) rfl))) (notFace_of_selects (args := #[]) (mvT hZ (hw _ (List.mem_of_getElem? (i := 14) rfl)))) (mvT hZ (hw _ (List.mem_of_getElem? (i := 14) rfl))) (mvT hZ (hw _ (List.mem_of_getElem? (i := 13) rfl))) (by decide) (backOf (W := 0) (rm2 l Z a0 hw [] wORDER wOFFER wOFFER wOFFER_Overview wORDER wORDER_StatusType wACTUAL_COSTING wHISTORY h0 n0 Z0 W0 ) hZ (hw _ (List.mem_of_getElem? (i := 15) rfl)) (hw _ (List.mem_of_getElem? (i := 9) rfl)) (by decide) (by decide)) q40a q40c (g := (mkF m 55 #[.val (.int p0), .val (.int (0 : Int32)), .val (.ref wOFFER), .val (.int (1 : Int32)), .val (.int (0 : Int32)), .val (.int (1 : Int32)), .unset] [(.ref wOFFER), (.ref wORDER)])) rfl (by rw [hml]; rfl) (Steps.refl _) (argsL := [(.ref wOFFER)]) (rest := []) (lenOf pd_1 rfl) rfl (by show 2 * 0 + _ ≤ _; exact Nat.le_of_eq rfl) (hb hby at_55) (fun _ _ => ⟨rfl, e39, (by decide : 0 + 0 ≤ _), (by decide : 0 + 0 ≤ _)⟩)
    dsimp only [Pt.U, Pt.locs, Pt.cells, Pt.slots] at X40 l40 y40 z40 st40 hQ40
    subst l40 y40 z40
    unfold Q2 at hQ40
    have k41 : ∀ t, Steps p.tables e below (T39.setTop (mkF m 55 #[.val (.int p0), .val (.int (0 : Int32)), .val (.ref wOFFER), .val (.int (1 : Int32)), .val (.int (0 : Int32)), .val (.int (1 : Int32)), .unset] [(.ref wOFFER), (.ref wORDER)])) t → Steps p.tables e below (s₁.setTop (entryFrame m #[(.int p0)] maxLocals)) t := fun t kt => k38 t (by
      show Steps p.tables e below (T36.setTop (mkF m 46 #[.val (.int p0), .val (.int (0 : Int32)), .val (.ref wOFFER), .val (.int (1 : Int32)), .val (.int (0 : Int32)), .unset, .unset] [(.ref wOFFER), (.ref wOFFER_Overview)])) _
      refine st37.trans ?_
      show Steps p.tables e below (T37.setTop (mkF m 49 #[.val (.int p0), .val (.int (0 : Int32)), .val (.ref wOFFER), .val (.int (1 : Int32)), .val (.int (0 : Int32)), .unset, .unset] [(.int (1 : Int32))])) _
      refine XS.istore X37.here hx rfl (hb hby at_49) rfl (l' := #[.val (.int p0), .val (.int (0 : Int32)), .val (.ref wOFFER), .val (.int (1 : Int32)), .val (.int (0 : Int32)), .val (.int (1 : Int32)), .unset]) rfl ?_
      show Steps p.tables e below (T37.setTop (mkF m 51 #[.val (.int p0), .val (.int (0 : Int32)), .val (.ref wOFFER), .val (.int (1 : Int32)), .val (.int (0 : Int32)), .val (.int (1 : Int32)), .unset] [])) _
      refine st39 _ ?_
      show Steps p.tables e below (T39.setTop (mkF m 54 #[.val (.int p0), .val (.int (0 : Int32)), .val (.ref wOFFER), .val (.int (1 : Int32)), .val (.int (0 : Int32)), .val (.int (1 : Int32)), .unset] [(.ref wORDER)])) _
      refine XS.aloadN X39.here hx rfl (hb hby at_54) rfl rfl ?_
      exact kt)
    rw [((by rw [f2, if_neg ((Fld.ne FORDER_ordinal FOFFER_Overview_ordinal (by decide)) : ¬ (wORDER = wOFFER_Overview)), if_neg ((Fld.ne FOFFER_ordinal FORDER_StatusType_ordinal (by decide)) : ¬ (wOFFER = wORDER_StatusType)), if_neg ((Fld.ne FOFFER_ordinal FACTUAL_COSTING_ordinal (by decide)) : ¬ (wOFFER = wACTUAL_COSTING))]) : (f2 wORDER wOFFER wOFFER wOFFER_Overview wORDER wORDER_StatusType wACTUAL_COSTING wHISTORY) = (0 : Int32))] at hQ40
    obtain ⟨rfl, N40q, e40⟩ := hQ40
    have N40 := Fr.app N37 N40q
    obtain ⟨fs, hr, hrun, hended, hW, hsame⟩ := X40.leave (v := some (.int (1 : Int32))) (fun h => by rw [Bd.returns] at h; cases h)
    refine ⟨_, _, k41 _ ?_, hrun, hended, _, _, rfl, ?_, ⟨_, rfl⟩, hW, hsame.mono (by decide) (by decide)⟩
    · show Steps p.tables e below (T39.setTop (mkF m 55 #[.val (.int p0), .val (.int (0 : Int32)), .val (.ref wOFFER), .val (.int (1 : Int32)), .val (.int (0 : Int32)), .val (.int (1 : Int32)), .unset] [(.ref wOFFER), (.ref wORDER)])) _
      refine st40.trans ?_
      show Steps p.tables e below (T40.setTop (mkF m 58 #[.val (.int p0), .val (.int (0 : Int32)), .val (.ref wOFFER), .val (.int (1 : Int32)), .val (.int (0 : Int32)), .val (.int (1 : Int32)), .unset] [(.int (0 : Int32))])) _
      refine XS.istore X40.here hx rfl (hb hby at_58) rfl (l' := #[.val (.int p0), .val (.int (0 : Int32)), .val (.ref wOFFER), .val (.int (1 : Int32)), .val (.int (0 : Int32)), .val (.int (1 : Int32)), .val (.int (0 : Int32))]) rfl ?_
      show Steps p.tables e below (T40.setTop (mkF m 60 #[.val (.int p0), .val (.int (0 : Int32)), .val (.ref wOFFER), .val (.int (1 : Int32)), .val (.int (0 : Int32)), .val (.int (1 : Int32)), .val (.int (0 : Int32))] [])) _
      refine XS.iload X40.here hx rfl (hb hby at_60) rfl ?_
      show Steps p.tables e below (T40.setTop (mkF m 62 #[.val (.int p0), .val (.int (0 : Int32)), .val (.ref wOFFER), .val (.int (1 : Int32)), .val (.int (0 : Int32)), .val (.int (1 : Int32)), .val (.int (0 : Int32))] [(.int (1 : Int32))])) _
      refine XS.iloadN X40.here hx rfl (hb hby at_62) rfl ?_
      show Steps p.tables e below (T40.setTop (mkF m 63 #[.val (.int p0), .val (.int (0 : Int32)), .val (.ref wOFFER), .val (.int (1 : Int32)), .val (.int (0 : Int32)), .val (.int (1 : Int32)), .val (.int (0 : Int32))] [(.int (1 : Int32)), (.int (1 : Int32))])) _
      refine XS.icmpNo X40.here hx rfl (hb hby at_63) rfl (teq (rfl : (1 : Int32) = (1 : Int32))).2 ?_
      show Steps p.tables e below (T40.setTop (mkF m 66 #[.val (.int p0), .val (.int (0 : Int32)), .val (.ref wOFFER), .val (.int (1 : Int32)), .val (.int (0 : Int32)), .val (.int (1 : Int32)), .val (.int (0 : Int32))] [])) _
      refine XS.iload X40.here hx rfl (hb hby at_66) rfl ?_
      show Steps p.tables e below (T40.setTop (mkF m 68 #[.val (.int p0), .val (.int (0 : Int32)), .val (.ref wOFFER), .val (.int (1 : Int32)), .val (.int (0 : Int32)), .val (.int (1 : Int32)), .val (.int (0 : Int32))] [(.int (0 : Int32))])) _
      refine XS.iload X40.here hx rfl (hb hby at_68) rfl ?_
      show Steps p.tables e below (T40.setTop (mkF m 70 #[.val (.int p0), .val (.int (0 : Int32)), .val (.ref wOFFER), .val (.int (1 : Int32)), .val (.int (0 : Int32)), .val (.int (1 : Int32)), .val (.int (0 : Int32))] [(.int (0 : Int32)), (.int (0 : Int32))])) _
      refine XS.icmpNo X40.here hx rfl (hb hby at_70) rfl (teq (rfl : (0 : Int32) = (0 : Int32))).2 ?_
      show Steps p.tables e below (T40.setTop (mkF m 73 #[.val (.int p0), .val (.int (0 : Int32)), .val (.ref wOFFER), .val (.int (1 : Int32)), .val (.int (0 : Int32)), .val (.int (1 : Int32)), .val (.int (0 : Int32))] [])) _
      refine XS.iconst X40.here hx rfl (hb hby at_73) ?_
      show Steps p.tables e below (T40.setTop (mkF m 74 #[.val (.int p0), .val (.int (0 : Int32)), .val (.ref wOFFER), .val (.int (1 : Int32)), .val (.int (0 : Int32)), .val (.int (1 : Int32)), .val (.int (0 : Int32))] [(.int (1 : Int32))])) _
      refine XS.goto X40.here hx rfl (pc0 := 74) (pc' := 78) rfl (hb hby at_74) (by decide) (by decide) ?_
      show Steps p.tables e below (T40.setTop (mkF m 78 #[.val (.int p0), .val (.int (0 : Int32)), .val (.ref wOFFER), .val (.int (1 : Int32)), .val (.int (0 : Int32)), .val (.int (1 : Int32)), .val (.int (0 : Int32))] [(.int (1 : Int32))])) _
      exact retN X40 hx (t := .boolean) Bd.returns (by simp) (hb hby at_78) hr
    · show Q0 Z p0 wOFFER wOFFER_Overview wORDER wORDER_StatusType wACTUAL_COSTING wHISTORY h0 n0 _ T40.heap _
      rw [e40]
      exact ⟨rfl, N40⟩
  · subst hv33
    obtain ⟨_, _, ⟨T42, L42, k42, n42⟩, -, X42, ⟨Lc42, hQ42, l42, y42, z42⟩, st42⟩ := Jvm.LawKit.callS X0 hx (y := (⟨"com/example/milepost/milepost/status/OverviewOwnsPinLaw", "typeOf", "(I)Lcom/example/milepost/milepost/status/StatusType;"⟩ : MethodName)) hown (mvT hZ (hw _ (List.mem_of_getElem? (i := 1) rfl))) (mvT hZ (hw _ (List.mem_of_getElem? (i := 2) rfl))) (mvT hZ (hw _ (List.mem_of_getElem? (i := 3) rfl))) (mvT hZ (hw _ (List.mem_of_getElem? (i := 4) rfl))) (by decide) (backOf (W := 0) (rm1 l Z a0 hw [] (1 : Int32) wOFFER wOFFER_Overview wORDER wORDER_StatusType wACTUAL_COSTING wHISTORY h0 n0 Z0 W0 ) hZ (hw _ (List.mem_of_getElem? (i := 4) rfl)) (hw _ (List.mem_of_getElem? (i := 3) rfl)) (by decide) (by decide)) (g := (mkF m 8 #[.val (.int p0), .val (.int (1 : Int32)), .unset, .unset, .unset, .unset, .unset] [(.int (1 : Int32))])) rfl (by rw [hml]; rfl) (argsL := [(.int (1 : Int32))]) (rest := []) (lenOf pd_0 rfl) rfl (by show 2 * 0 + _ ≤ _; exact Nat.le_of_eq rfl) (hb hby at_8) (fun _ _ => ⟨rfl, e0, (by decide : 0 + 0 ≤ _), (by decide : 0 + 0 ≤ _)⟩)
    dsimp only [Pt.U, Pt.locs, Pt.cells, Pt.slots] at X42 l42 y42 z42 st42 hQ42
    subst l42 y42 z42
    unfold Q1 at hQ42
    have k43 : ∀ t, Steps p.tables e below (s₁.setTop (mkF m 8 #[.val (.int p0), .val (.int (1 : Int32)), .unset, .unset, .unset, .unset, .unset] [(.int (1 : Int32))])) t → Steps p.tables e below (s₁.setTop (entryFrame m #[(.int p0)] maxLocals)) t := fun t kt => k32 t (by
      show Steps p.tables e below (s₁.setTop (mkF m 7 #[.val (.int p0), .val (.int (1 : Int32)), .unset, .unset, .unset, .unset, .unset] [])) _
      refine XS.iloadN X0.here hx rfl (hb hby at_7) rfl ?_
      exact kt)
    rw [((by rw [f1, if_neg ((by decide) : ¬ ((1 : Int32) = (0 : Int32))), if_pos (rfl : (1 : Int32) = (1 : Int32))]) : (f1 (1 : Int32) wOFFER wOFFER_Overview wORDER wORDER_StatusType wACTUAL_COSTING wHISTORY) = (.ref wORDER_StatusType))] at hQ42
    obtain ⟨rfl, N42q, e42⟩ := hQ42
    have N42 := Fr.app N0 N42q
    obtain ⟨T44, X44, e44, st44⟩ := getS2 X42 hx hZ hown (host := "") (Or.inl (hw _ (List.mem_of_getElem? (i := 8) rfl))) Via.refl e42 SOFFER_Overview (g := (mkF m 42 #[.val (.int p0), .val (.int (1 : Int32)), .val (.ref wORDER_StatusType), .val (.int (0 : Int32)), .val (.int (1 : Int32)), .unset, .unset] [])) rfl (hb hby at_42)
    obtain ⟨cq45, kq45, q45a, q45b, q45c⟩ := isOf hZ e44 EOFFER_Overview
    obtain ⟨_, _, ⟨T45, L45, k45, n45⟩, -, X45, ⟨Lc45, hQ45, l45, y45, z45⟩, st45⟩ := X44.virtualBack hx (y := (⟨"com/example/milepost/milepost/status/Overview", "owns", "(Lcom/example/milepost/milepost/status/StatusType;)Z"⟩ : MethodName)) (z := (⟨"com/example/milepost/milepost/status/Overview", "owns", "(Lcom/example/milepost/milepost/status/StatusType;)Z"⟩ : MethodName)) hown (mvT hZ (hw _ (List.mem_of_getElem? (i := 11) rfl))) (mvT hZ (hw _ (List.mem_of_getElem? (i := 12) rfl))) (notFace_of_selects (args := #[]) (mvT hZ (hw _ (List.mem_of_getElem? (i := 14) rfl)))) (mvT hZ (hw _ (List.mem_of_getElem? (i := 14) rfl))) (mvT hZ (hw _ (List.mem_of_getElem? (i := 13) rfl))) (by decide) (backOf (W := 0) (rm2 l Z a0 hw [] wOFFER_Overview wORDER_StatusType wOFFER wOFFER_Overview wORDER wORDER_StatusType wACTUAL_COSTING wHISTORY h0 n0 Z0 W0 ) hZ (hw _ (List.mem_of_getElem? (i := 15) rfl)) (hw _ (List.mem_of_getElem? (i := 9) rfl)) (by decide) (by decide)) q45a q45c (g := (mkF m 46 #[.val (.int p0), .val (.int (1 : Int32)), .val (.ref wORDER_StatusType), .val (.int (0 : Int32)), .val (.int (1 : Int32)), .unset, .unset] [(.ref wORDER_StatusType), (.ref wOFFER_Overview)])) rfl (by rw [hml]; rfl) (Steps.refl _) (argsL := [(.ref wORDER_StatusType)]) (rest := []) (lenOf pd_1 rfl) rfl (by show 2 * 0 + _ ≤ _; exact Nat.le_of_eq rfl) (hb hby at_46) (fun _ _ => ⟨rfl, e44, (by decide : 0 + 0 ≤ _), (by decide : 0 + 0 ≤ _)⟩)
    dsimp only [Pt.U, Pt.locs, Pt.cells, Pt.slots] at X45 l45 y45 z45 st45 hQ45
    subst l45 y45 z45
    unfold Q2 at hQ45
    have k46 : ∀ t, Steps p.tables e below (T44.setTop (mkF m 46 #[.val (.int p0), .val (.int (1 : Int32)), .val (.ref wORDER_StatusType), .val (.int (0 : Int32)), .val (.int (1 : Int32)), .unset, .unset] [(.ref wORDER_StatusType), (.ref wOFFER_Overview)])) t → Steps p.tables e below (s₁.setTop (entryFrame m #[(.int p0)] maxLocals)) t := fun t kt => k43 t (by
      show Steps p.tables e below (s₁.setTop (mkF m 8 #[.val (.int p0), .val (.int (1 : Int32)), .unset, .unset, .unset, .unset, .unset] [(.int (1 : Int32))])) _
      refine st42 _ ?_
      show Steps p.tables e below (T42.setTop (mkF m 11 #[.val (.int p0), .val (.int (1 : Int32)), .unset, .unset, .unset, .unset, .unset] [(.ref wORDER_StatusType)])) _
      refine XS.astoreN X42.here hx rfl (hb hby at_11) rfl rfl (l' := #[.val (.int p0), .val (.int (1 : Int32)), .val (.ref wORDER_StatusType), .unset, .unset, .unset, .unset]) rfl ?_
      show Steps p.tables e below (T42.setTop (mkF m 12 #[.val (.int p0), .val (.int (1 : Int32)), .val (.ref wORDER_StatusType), .unset, .unset, .unset, .unset] [])) _
      refine XS.iconst X42.here hx rfl (hb hby at_12) ?_
      show Steps p.tables e below (T42.setTop (mkF m 13 #[.val (.int p0), .val (.int (1 : Int32)), .val (.ref wORDER_StatusType), .unset, .unset, .unset, .unset] [(.int (1 : Int32))])) _
      refine XS.iloadN X42.here hx rfl (hb hby at_13) rfl ?_
      show Steps p.tables e below (T42.setTop (mkF m 14 #[.val (.int p0), .val (.int (1 : Int32)), .val (.ref wORDER_StatusType), .unset, .unset, .unset, .unset] [(.int (1 : Int32)), (.int (1 : Int32))])) _
      refine XS.ishr X42.here hx rfl (hb hby at_14) rfl ?_
      show Steps p.tables e below (T42.setTop (mkF m 15 #[.val (.int p0), .val (.int (1 : Int32)), .val (.ref wORDER_StatusType), .unset, .unset, .unset, .unset] [(.int ((1 : Int32) >>> ((1 : Int32) &&& 31)))])) _
      refine XS.iconst X42.here hx rfl (hb hby at_15) ?_
      show Steps p.tables e below (T42.setTop (mkF m 16 #[.val (.int p0), .val (.int (1 : Int32)), .val (.ref wORDER_StatusType), .unset, .unset, .unset, .unset] [(.int (1 : Int32)), (.int ((1 : Int32) >>> ((1 : Int32) &&& 31)))])) _
      refine XS.iand X42.here hx rfl (hb hby at_16) rfl ?_
      show Steps p.tables e below (T42.setTop (mkF m 17 #[.val (.int p0), .val (.int (1 : Int32)), .val (.ref wORDER_StatusType), .unset, .unset, .unset, .unset] [(.int (((1 : Int32) >>> ((1 : Int32) &&& 31)) &&& (1 : Int32)))])) _
      refine XS.ifYes X42.here hx rfl (pc0 := 17) (pc' := 24) rfl (hb hby at_17) rfl ((if0 _ _).trans (teq ((by decide) : (((1 : Int32) >>> ((1 : Int32) &&& 31)) &&& (1 : Int32)) = (0 : Int32))).1) (by decide) (by decide) ?_
      show Steps p.tables e below (T42.setTop (mkF m 24 #[.val (.int p0), .val (.int (1 : Int32)), .val (.ref wORDER_StatusType), .unset, .unset, .unset, .unset] [])) _
      refine XS.iconst X42.here hx rfl (hb hby at_24) ?_
      show Steps p.tables e below (T42.setTop (mkF m 25 #[.val (.int p0), .val (.int (1 : Int32)), .val (.ref wORDER_StatusType), .unset, .unset, .unset, .unset] [(.int (0 : Int32))])) _
      refine XS.istoreN X42.here hx rfl (hb hby at_25) rfl (l' := #[.val (.int p0), .val (.int (1 : Int32)), .val (.ref wORDER_StatusType), .val (.int (0 : Int32)), .unset, .unset, .unset]) rfl ?_
      show Steps p.tables e below (T42.setTop (mkF m 26 #[.val (.int p0), .val (.int (1 : Int32)), .val (.ref wORDER_StatusType), .val (.int (0 : Int32)), .unset, .unset, .unset] [])) _
      refine XS.bipush X42.here hx rfl (hb hby at_26) ?_
      show Steps p.tables e below (T42.setTop (mkF m 28 #[.val (.int p0), .val (.int (1 : Int32)), .val (.ref wORDER_StatusType), .val (.int (0 : Int32)), .unset, .unset, .unset] [(.int (6 : Int32))])) _
      refine XS.iloadN X42.here hx rfl (hb hby at_28) rfl ?_
      show Steps p.tables e below (T42.setTop (mkF m 29 #[.val (.int p0), .val (.int (1 : Int32)), .val (.ref wORDER_StatusType), .val (.int (0 : Int32)), .unset, .unset, .unset] [(.int (1 : Int32)), (.int (6 : Int32))])) _
      refine XS.ishr X42.here hx rfl (hb hby at_29) rfl ?_
      show Steps p.tables e below (T42.setTop (mkF m 30 #[.val (.int p0), .val (.int (1 : Int32)), .val (.ref wORDER_StatusType), .val (.int (0 : Int32)), .unset, .unset, .unset] [(.int ((6 : Int32) >>> ((1 : Int32) &&& 31)))])) _
      refine XS.iconst X42.here hx rfl (hb hby at_30) ?_
      show Steps p.tables e below (T42.setTop (mkF m 31 #[.val (.int p0), .val (.int (1 : Int32)), .val (.ref wORDER_StatusType), .val (.int (0 : Int32)), .unset, .unset, .unset] [(.int (1 : Int32)), (.int ((6 : Int32) >>> ((1 : Int32) &&& 31)))])) _
      refine XS.iand X42.here hx rfl (hb hby at_31) rfl ?_
      show Steps p.tables e below (T42.setTop (mkF m 32 #[.val (.int p0), .val (.int (1 : Int32)), .val (.ref wORDER_StatusType), .val (.int (0 : Int32)), .unset, .unset, .unset] [(.int (((6 : Int32) >>> ((1 : Int32) &&& 31)) &&& (1 : Int32)))])) _
      refine XS.ifNo X42.here hx rfl (hb hby at_32) rfl ((if0 _ _).trans (feq ((by decide) : ¬ ((((6 : Int32) >>> ((1 : Int32) &&& 31)) &&& (1 : Int32)) = (0 : Int32)))).1) ?_
      show Steps p.tables e below (T42.setTop (mkF m 35 #[.val (.int p0), .val (.int (1 : Int32)), .val (.ref wORDER_StatusType), .val (.int (0 : Int32)), .unset, .unset, .unset] [])) _
      refine XS.iconst X42.here hx rfl (hb hby at_35) ?_
      show Steps p.tables e below (T42.setTop (mkF m 36 #[.val (.int p0), .val (.int (1 : Int32)), .val (.ref wORDER_StatusType), .val (.int (0 : Int32)), .unset, .unset, .unset] [(.int (1 : Int32))])) _
      refine XS.goto X42.here hx rfl (pc0 := 36) (pc' := 40) rfl (hb hby at_36) (by decide) (by decide) ?_
      show Steps p.tables e below (T42.setTop (mkF m 40 #[.val (.int p0), .val (.int (1 : Int32)), .val (.ref wORDER_StatusType), .val (.int (0 : Int32)), .unset, .unset, .unset] [(.int (1 : Int32))])) _
      refine XS.istore X42.here hx rfl (hb hby at_40) rfl (l' := #[.val (.int p0), .val (.int (1 : Int32)), .val (.ref wORDER_StatusType), .val (.int (0 : Int32)), .val (.int (1 : Int32)), .unset, .unset]) rfl ?_
      show Steps p.tables e below (T42.setTop (mkF m 42 #[.val (.int p0), .val (.int (1 : Int32)), .val (.ref wORDER_StatusType), .val (.int (0 : Int32)), .val (.int (1 : Int32)), .unset, .unset] [])) _
      refine st44 _ ?_
      show Steps p.tables e below (T44.setTop (mkF m 45 #[.val (.int p0), .val (.int (1 : Int32)), .val (.ref wORDER_StatusType), .val (.int (0 : Int32)), .val (.int (1 : Int32)), .unset, .unset] [(.ref wOFFER_Overview)])) _
      refine XS.aloadN X44.here hx rfl (hb hby at_45) rfl rfl ?_
      exact kt)
    rw [((by rw [f2, if_pos (rfl : wOFFER_Overview = wOFFER_Overview), if_neg ((Fld.ne FORDER_StatusType_ordinal FOFFER_ordinal (by decide)) : ¬ (wORDER_StatusType = wOFFER))]) : (f2 wOFFER_Overview wORDER_StatusType wOFFER wOFFER_Overview wORDER wORDER_StatusType wACTUAL_COSTING wHISTORY) = (0 : Int32))] at hQ45
    obtain ⟨rfl, N45q, e45⟩ := hQ45
    have N45 := Fr.app N42 N45q
    obtain ⟨T47, X47, e47, st47⟩ := getS2 X45 hx hZ hown (host := "") (Or.inl (hw _ (List.mem_of_getElem? (i := 18) rfl))) Via.refl e45 SORDER (g := (mkF m 51 #[.val (.int p0), .val (.int (1 : Int32)), .val (.ref wORDER_StatusType), .val (.int (0 : Int32)), .val (.int (1 : Int32)), .val (.int (0 : Int32)), .unset] [])) rfl (hb hby at_51)
    obtain ⟨cq48, kq48, q48a, q48b, q48c⟩ := isOf hZ e47 EORDER
    obtain ⟨_, _, ⟨T48, L48, k48, n48⟩, -, X48, ⟨Lc48, hQ48, l48, y48, z48⟩, st48⟩ := X47.virtualBack hx (y := (⟨"com/example/milepost/milepost/status/Overview", "owns", "(Lcom/example/milepost/milepost/status/StatusType;)Z"⟩ : MethodName)) (z := (⟨"com/example/milepost/milepost/status/Overview", "owns", "(Lcom/example/milepost/milepost/status/StatusType;)Z"⟩ : MethodName)) hown (mvT hZ (hw _ (List.mem_of_getElem? (i := 11) rfl))) (mvT hZ (hw _ (List.mem_of_getElem? (i := 12) rfl))) (notFace_of_selects (args := #[]) (mvT hZ (hw _ (List.mem_of_getElem? (i := 14) rfl)))) (mvT hZ (hw _ (List.mem_of_getElem? (i := 14) rfl))) (mvT hZ (hw _ (List.mem_of_getElem? (i := 13) rfl))) (by decide) (backOf (W := 0) (rm2 l Z a0 hw [] wORDER wORDER_StatusType wOFFER wOFFER_Overview wORDER wORDER_StatusType wACTUAL_COSTING wHISTORY h0 n0 Z0 W0 ) hZ (hw _ (List.mem_of_getElem? (i := 15) rfl)) (hw _ (List.mem_of_getElem? (i := 9) rfl)) (by decide) (by decide)) q48a q48c (g := (mkF m 55 #[.val (.int p0), .val (.int (1 : Int32)), .val (.ref wORDER_StatusType), .val (.int (0 : Int32)), .val (.int (1 : Int32)), .val (.int (0 : Int32)), .unset] [(.ref wORDER_StatusType), (.ref wORDER)])) rfl (by rw [hml]; rfl) (Steps.refl _) (argsL := [(.ref wORDER_StatusType)]) (rest := []) (lenOf pd_1 rfl) rfl (by show 2 * 0 + _ ≤ _; exact Nat.le_of_eq rfl) (hb hby at_55) (fun _ _ => ⟨rfl, e47, (by decide : 0 + 0 ≤ _), (by decide : 0 + 0 ≤ _)⟩)
    dsimp only [Pt.U, Pt.locs, Pt.cells, Pt.slots] at X48 l48 y48 z48 st48 hQ48
    subst l48 y48 z48
    unfold Q2 at hQ48
    have k49 : ∀ t, Steps p.tables e below (T47.setTop (mkF m 55 #[.val (.int p0), .val (.int (1 : Int32)), .val (.ref wORDER_StatusType), .val (.int (0 : Int32)), .val (.int (1 : Int32)), .val (.int (0 : Int32)), .unset] [(.ref wORDER_StatusType), (.ref wORDER)])) t → Steps p.tables e below (s₁.setTop (entryFrame m #[(.int p0)] maxLocals)) t := fun t kt => k46 t (by
      show Steps p.tables e below (T44.setTop (mkF m 46 #[.val (.int p0), .val (.int (1 : Int32)), .val (.ref wORDER_StatusType), .val (.int (0 : Int32)), .val (.int (1 : Int32)), .unset, .unset] [(.ref wORDER_StatusType), (.ref wOFFER_Overview)])) _
      refine st45.trans ?_
      show Steps p.tables e below (T45.setTop (mkF m 49 #[.val (.int p0), .val (.int (1 : Int32)), .val (.ref wORDER_StatusType), .val (.int (0 : Int32)), .val (.int (1 : Int32)), .unset, .unset] [(.int (0 : Int32))])) _
      refine XS.istore X45.here hx rfl (hb hby at_49) rfl (l' := #[.val (.int p0), .val (.int (1 : Int32)), .val (.ref wORDER_StatusType), .val (.int (0 : Int32)), .val (.int (1 : Int32)), .val (.int (0 : Int32)), .unset]) rfl ?_
      show Steps p.tables e below (T45.setTop (mkF m 51 #[.val (.int p0), .val (.int (1 : Int32)), .val (.ref wORDER_StatusType), .val (.int (0 : Int32)), .val (.int (1 : Int32)), .val (.int (0 : Int32)), .unset] [])) _
      refine st47 _ ?_
      show Steps p.tables e below (T47.setTop (mkF m 54 #[.val (.int p0), .val (.int (1 : Int32)), .val (.ref wORDER_StatusType), .val (.int (0 : Int32)), .val (.int (1 : Int32)), .val (.int (0 : Int32)), .unset] [(.ref wORDER)])) _
      refine XS.aloadN X47.here hx rfl (hb hby at_54) rfl rfl ?_
      exact kt)
    rw [((by rw [f2, if_neg ((Fld.ne FORDER_ordinal FOFFER_Overview_ordinal (by decide)) : ¬ (wORDER = wOFFER_Overview)), if_pos (rfl : wORDER_StatusType = wORDER_StatusType)]) : (f2 wORDER wORDER_StatusType wOFFER wOFFER_Overview wORDER wORDER_StatusType wACTUAL_COSTING wHISTORY) = (1 : Int32))] at hQ48
    obtain ⟨rfl, N48q, e48⟩ := hQ48
    have N48 := Fr.app N45 N48q
    obtain ⟨fs, hr, hrun, hended, hW, hsame⟩ := X48.leave (v := some (.int (1 : Int32))) (fun h => by rw [Bd.returns] at h; cases h)
    refine ⟨_, _, k49 _ ?_, hrun, hended, _, _, rfl, ?_, ⟨_, rfl⟩, hW, hsame.mono (by decide) (by decide)⟩
    · show Steps p.tables e below (T47.setTop (mkF m 55 #[.val (.int p0), .val (.int (1 : Int32)), .val (.ref wORDER_StatusType), .val (.int (0 : Int32)), .val (.int (1 : Int32)), .val (.int (0 : Int32)), .unset] [(.ref wORDER_StatusType), (.ref wORDER)])) _
      refine st48.trans ?_
      show Steps p.tables e below (T48.setTop (mkF m 58 #[.val (.int p0), .val (.int (1 : Int32)), .val (.ref wORDER_StatusType), .val (.int (0 : Int32)), .val (.int (1 : Int32)), .val (.int (0 : Int32)), .unset] [(.int (1 : Int32))])) _
      refine XS.istore X48.here hx rfl (hb hby at_58) rfl (l' := #[.val (.int p0), .val (.int (1 : Int32)), .val (.ref wORDER_StatusType), .val (.int (0 : Int32)), .val (.int (1 : Int32)), .val (.int (0 : Int32)), .val (.int (1 : Int32))]) rfl ?_
      show Steps p.tables e below (T48.setTop (mkF m 60 #[.val (.int p0), .val (.int (1 : Int32)), .val (.ref wORDER_StatusType), .val (.int (0 : Int32)), .val (.int (1 : Int32)), .val (.int (0 : Int32)), .val (.int (1 : Int32))] [])) _
      refine XS.iload X48.here hx rfl (hb hby at_60) rfl ?_
      show Steps p.tables e below (T48.setTop (mkF m 62 #[.val (.int p0), .val (.int (1 : Int32)), .val (.ref wORDER_StatusType), .val (.int (0 : Int32)), .val (.int (1 : Int32)), .val (.int (0 : Int32)), .val (.int (1 : Int32))] [(.int (0 : Int32))])) _
      refine XS.iloadN X48.here hx rfl (hb hby at_62) rfl ?_
      show Steps p.tables e below (T48.setTop (mkF m 63 #[.val (.int p0), .val (.int (1 : Int32)), .val (.ref wORDER_StatusType), .val (.int (0 : Int32)), .val (.int (1 : Int32)), .val (.int (0 : Int32)), .val (.int (1 : Int32))] [(.int (0 : Int32)), (.int (0 : Int32))])) _
      refine XS.icmpNo X48.here hx rfl (hb hby at_63) rfl (teq (rfl : (0 : Int32) = (0 : Int32))).2 ?_
      show Steps p.tables e below (T48.setTop (mkF m 66 #[.val (.int p0), .val (.int (1 : Int32)), .val (.ref wORDER_StatusType), .val (.int (0 : Int32)), .val (.int (1 : Int32)), .val (.int (0 : Int32)), .val (.int (1 : Int32))] [])) _
      refine XS.iload X48.here hx rfl (hb hby at_66) rfl ?_
      show Steps p.tables e below (T48.setTop (mkF m 68 #[.val (.int p0), .val (.int (1 : Int32)), .val (.ref wORDER_StatusType), .val (.int (0 : Int32)), .val (.int (1 : Int32)), .val (.int (0 : Int32)), .val (.int (1 : Int32))] [(.int (1 : Int32))])) _
      refine XS.iload X48.here hx rfl (hb hby at_68) rfl ?_
      show Steps p.tables e below (T48.setTop (mkF m 70 #[.val (.int p0), .val (.int (1 : Int32)), .val (.ref wORDER_StatusType), .val (.int (0 : Int32)), .val (.int (1 : Int32)), .val (.int (0 : Int32)), .val (.int (1 : Int32))] [(.int (1 : Int32)), (.int (1 : Int32))])) _
      refine XS.icmpNo X48.here hx rfl (hb hby at_70) rfl (teq (rfl : (1 : Int32) = (1 : Int32))).2 ?_
      show Steps p.tables e below (T48.setTop (mkF m 73 #[.val (.int p0), .val (.int (1 : Int32)), .val (.ref wORDER_StatusType), .val (.int (0 : Int32)), .val (.int (1 : Int32)), .val (.int (0 : Int32)), .val (.int (1 : Int32))] [])) _
      refine XS.iconst X48.here hx rfl (hb hby at_73) ?_
      show Steps p.tables e below (T48.setTop (mkF m 74 #[.val (.int p0), .val (.int (1 : Int32)), .val (.ref wORDER_StatusType), .val (.int (0 : Int32)), .val (.int (1 : Int32)), .val (.int (0 : Int32)), .val (.int (1 : Int32))] [(.int (1 : Int32))])) _
      refine XS.goto X48.here hx rfl (pc0 := 74) (pc' := 78) rfl (hb hby at_74) (by decide) (by decide) ?_
      show Steps p.tables e below (T48.setTop (mkF m 78 #[.val (.int p0), .val (.int (1 : Int32)), .val (.ref wORDER_StatusType), .val (.int (0 : Int32)), .val (.int (1 : Int32)), .val (.int (0 : Int32)), .val (.int (1 : Int32))] [(.int (1 : Int32))])) _
      exact retN X48 hx (t := .boolean) Bd.returns (by simp) (hb hby at_78) hr
    · show Q0 Z p0 wOFFER wOFFER_Overview wORDER wORDER_StatusType wACTUAL_COSTING wHISTORY h0 n0 _ T48.heap _
      rw [e48]
      exact ⟨rfl, N48⟩
  · subst hv33
    obtain ⟨_, _, ⟨T50, L50, k50, n50⟩, -, X50, ⟨Lc50, hQ50, l50, y50, z50⟩, st50⟩ := Jvm.LawKit.callS X0 hx (y := (⟨"com/example/milepost/milepost/status/OverviewOwnsPinLaw", "typeOf", "(I)Lcom/example/milepost/milepost/status/StatusType;"⟩ : MethodName)) hown (mvT hZ (hw _ (List.mem_of_getElem? (i := 1) rfl))) (mvT hZ (hw _ (List.mem_of_getElem? (i := 2) rfl))) (mvT hZ (hw _ (List.mem_of_getElem? (i := 3) rfl))) (mvT hZ (hw _ (List.mem_of_getElem? (i := 4) rfl))) (by decide) (backOf (W := 0) (rm1 l Z a0 hw [] (2 : Int32) wOFFER wOFFER_Overview wORDER wORDER_StatusType wACTUAL_COSTING wHISTORY h0 n0 Z0 W0 ) hZ (hw _ (List.mem_of_getElem? (i := 4) rfl)) (hw _ (List.mem_of_getElem? (i := 3) rfl)) (by decide) (by decide)) (g := (mkF m 8 #[.val (.int p0), .val (.int (2 : Int32)), .unset, .unset, .unset, .unset, .unset] [(.int (2 : Int32))])) rfl (by rw [hml]; rfl) (argsL := [(.int (2 : Int32))]) (rest := []) (lenOf pd_0 rfl) rfl (by show 2 * 0 + _ ≤ _; exact Nat.le_of_eq rfl) (hb hby at_8) (fun _ _ => ⟨rfl, e0, (by decide : 0 + 0 ≤ _), (by decide : 0 + 0 ≤ _)⟩)
    dsimp only [Pt.U, Pt.locs, Pt.cells, Pt.slots] at X50 l50 y50 z50 st50 hQ50
    subst l50 y50 z50
    unfold Q1 at hQ50
    have k51 : ∀ t, Steps p.tables e below (s₁.setTop (mkF m 8 #[.val (.int p0), .val (.int (2 : Int32)), .unset, .unset, .unset, .unset, .unset] [(.int (2 : Int32))])) t → Steps p.tables e below (s₁.setTop (entryFrame m #[(.int p0)] maxLocals)) t := fun t kt => k32 t (by
      show Steps p.tables e below (s₁.setTop (mkF m 7 #[.val (.int p0), .val (.int (2 : Int32)), .unset, .unset, .unset, .unset, .unset] [])) _
      refine XS.iloadN X0.here hx rfl (hb hby at_7) rfl ?_
      exact kt)
    rw [((by rw [f1, if_neg ((by decide) : ¬ ((2 : Int32) = (0 : Int32))), if_neg ((by decide) : ¬ ((2 : Int32) = (1 : Int32))), if_pos (rfl : (2 : Int32) = (2 : Int32))]) : (f1 (2 : Int32) wOFFER wOFFER_Overview wORDER wORDER_StatusType wACTUAL_COSTING wHISTORY) = (.ref wACTUAL_COSTING))] at hQ50
    obtain ⟨rfl, N50q, e50⟩ := hQ50
    have N50 := Fr.app N0 N50q
    obtain ⟨T52, X52, e52, st52⟩ := getS2 X50 hx hZ hown (host := "") (Or.inl (hw _ (List.mem_of_getElem? (i := 8) rfl))) Via.refl e50 SOFFER_Overview (g := (mkF m 42 #[.val (.int p0), .val (.int (2 : Int32)), .val (.ref wACTUAL_COSTING), .val (.int (0 : Int32)), .val (.int (1 : Int32)), .unset, .unset] [])) rfl (hb hby at_42)
    obtain ⟨cq53, kq53, q53a, q53b, q53c⟩ := isOf hZ e52 EOFFER_Overview
    obtain ⟨_, _, ⟨T53, L53, k53, n53⟩, -, X53, ⟨Lc53, hQ53, l53, y53, z53⟩, st53⟩ := X52.virtualBack hx (y := (⟨"com/example/milepost/milepost/status/Overview", "owns", "(Lcom/example/milepost/milepost/status/StatusType;)Z"⟩ : MethodName)) (z := (⟨"com/example/milepost/milepost/status/Overview", "owns", "(Lcom/example/milepost/milepost/status/StatusType;)Z"⟩ : MethodName)) hown (mvT hZ (hw _ (List.mem_of_getElem? (i := 11) rfl))) (mvT hZ (hw _ (List.mem_of_getElem? (i := 12) rfl))) (notFace_of_selects (args := #[]) (mvT hZ (hw _ (List.mem_of_getElem? (i := 14) rfl)))) (mvT hZ (hw _ (List.mem_of_getElem? (i := 14) rfl))) (mvT hZ (hw _ (List.mem_of_getElem? (i := 13) rfl))) (by decide) (backOf (W := 0) (rm2 l Z a0 hw [] wOFFER_Overview wACTUAL_COSTING wOFFER wOFFER_Overview wORDER wORDER_StatusType wACTUAL_COSTING wHISTORY h0 n0 Z0 W0 ) hZ (hw _ (List.mem_of_getElem? (i := 15) rfl)) (hw _ (List.mem_of_getElem? (i := 9) rfl)) (by decide) (by decide)) q53a q53c (g := (mkF m 46 #[.val (.int p0), .val (.int (2 : Int32)), .val (.ref wACTUAL_COSTING), .val (.int (0 : Int32)), .val (.int (1 : Int32)), .unset, .unset] [(.ref wACTUAL_COSTING), (.ref wOFFER_Overview)])) rfl (by rw [hml]; rfl) (Steps.refl _) (argsL := [(.ref wACTUAL_COSTING)]) (rest := []) (lenOf pd_1 rfl) rfl (by show 2 * 0 + _ ≤ _; exact Nat.le_of_eq rfl) (hb hby at_46) (fun _ _ => ⟨rfl, e52, (by decide : 0 + 0 ≤ _), (by decide : 0 + 0 ≤ _)⟩)
    dsimp only [Pt.U, Pt.locs, Pt.cells, Pt.slots] at X53 l53 y53 z53 st53 hQ53
    subst l53 y53 z53
    unfold Q2 at hQ53
    have k54 : ∀ t, Steps p.tables e below (T52.setTop (mkF m 46 #[.val (.int p0), .val (.int (2 : Int32)), .val (.ref wACTUAL_COSTING), .val (.int (0 : Int32)), .val (.int (1 : Int32)), .unset, .unset] [(.ref wACTUAL_COSTING), (.ref wOFFER_Overview)])) t → Steps p.tables e below (s₁.setTop (entryFrame m #[(.int p0)] maxLocals)) t := fun t kt => k51 t (by
      show Steps p.tables e below (s₁.setTop (mkF m 8 #[.val (.int p0), .val (.int (2 : Int32)), .unset, .unset, .unset, .unset, .unset] [(.int (2 : Int32))])) _
      refine st50 _ ?_
      show Steps p.tables e below (T50.setTop (mkF m 11 #[.val (.int p0), .val (.int (2 : Int32)), .unset, .unset, .unset, .unset, .unset] [(.ref wACTUAL_COSTING)])) _
      refine XS.astoreN X50.here hx rfl (hb hby at_11) rfl rfl (l' := #[.val (.int p0), .val (.int (2 : Int32)), .val (.ref wACTUAL_COSTING), .unset, .unset, .unset, .unset]) rfl ?_
      show Steps p.tables e below (T50.setTop (mkF m 12 #[.val (.int p0), .val (.int (2 : Int32)), .val (.ref wACTUAL_COSTING), .unset, .unset, .unset, .unset] [])) _
      refine XS.iconst X50.here hx rfl (hb hby at_12) ?_
      show Steps p.tables e below (T50.setTop (mkF m 13 #[.val (.int p0), .val (.int (2 : Int32)), .val (.ref wACTUAL_COSTING), .unset, .unset, .unset, .unset] [(.int (1 : Int32))])) _
      refine XS.iloadN X50.here hx rfl (hb hby at_13) rfl ?_
      show Steps p.tables e below (T50.setTop (mkF m 14 #[.val (.int p0), .val (.int (2 : Int32)), .val (.ref wACTUAL_COSTING), .unset, .unset, .unset, .unset] [(.int (2 : Int32)), (.int (1 : Int32))])) _
      refine XS.ishr X50.here hx rfl (hb hby at_14) rfl ?_
      show Steps p.tables e below (T50.setTop (mkF m 15 #[.val (.int p0), .val (.int (2 : Int32)), .val (.ref wACTUAL_COSTING), .unset, .unset, .unset, .unset] [(.int ((1 : Int32) >>> ((2 : Int32) &&& 31)))])) _
      refine XS.iconst X50.here hx rfl (hb hby at_15) ?_
      show Steps p.tables e below (T50.setTop (mkF m 16 #[.val (.int p0), .val (.int (2 : Int32)), .val (.ref wACTUAL_COSTING), .unset, .unset, .unset, .unset] [(.int (1 : Int32)), (.int ((1 : Int32) >>> ((2 : Int32) &&& 31)))])) _
      refine XS.iand X50.here hx rfl (hb hby at_16) rfl ?_
      show Steps p.tables e below (T50.setTop (mkF m 17 #[.val (.int p0), .val (.int (2 : Int32)), .val (.ref wACTUAL_COSTING), .unset, .unset, .unset, .unset] [(.int (((1 : Int32) >>> ((2 : Int32) &&& 31)) &&& (1 : Int32)))])) _
      refine XS.ifYes X50.here hx rfl (pc0 := 17) (pc' := 24) rfl (hb hby at_17) rfl ((if0 _ _).trans (teq ((by decide) : (((1 : Int32) >>> ((2 : Int32) &&& 31)) &&& (1 : Int32)) = (0 : Int32))).1) (by decide) (by decide) ?_
      show Steps p.tables e below (T50.setTop (mkF m 24 #[.val (.int p0), .val (.int (2 : Int32)), .val (.ref wACTUAL_COSTING), .unset, .unset, .unset, .unset] [])) _
      refine XS.iconst X50.here hx rfl (hb hby at_24) ?_
      show Steps p.tables e below (T50.setTop (mkF m 25 #[.val (.int p0), .val (.int (2 : Int32)), .val (.ref wACTUAL_COSTING), .unset, .unset, .unset, .unset] [(.int (0 : Int32))])) _
      refine XS.istoreN X50.here hx rfl (hb hby at_25) rfl (l' := #[.val (.int p0), .val (.int (2 : Int32)), .val (.ref wACTUAL_COSTING), .val (.int (0 : Int32)), .unset, .unset, .unset]) rfl ?_
      show Steps p.tables e below (T50.setTop (mkF m 26 #[.val (.int p0), .val (.int (2 : Int32)), .val (.ref wACTUAL_COSTING), .val (.int (0 : Int32)), .unset, .unset, .unset] [])) _
      refine XS.bipush X50.here hx rfl (hb hby at_26) ?_
      show Steps p.tables e below (T50.setTop (mkF m 28 #[.val (.int p0), .val (.int (2 : Int32)), .val (.ref wACTUAL_COSTING), .val (.int (0 : Int32)), .unset, .unset, .unset] [(.int (6 : Int32))])) _
      refine XS.iloadN X50.here hx rfl (hb hby at_28) rfl ?_
      show Steps p.tables e below (T50.setTop (mkF m 29 #[.val (.int p0), .val (.int (2 : Int32)), .val (.ref wACTUAL_COSTING), .val (.int (0 : Int32)), .unset, .unset, .unset] [(.int (2 : Int32)), (.int (6 : Int32))])) _
      refine XS.ishr X50.here hx rfl (hb hby at_29) rfl ?_
      show Steps p.tables e below (T50.setTop (mkF m 30 #[.val (.int p0), .val (.int (2 : Int32)), .val (.ref wACTUAL_COSTING), .val (.int (0 : Int32)), .unset, .unset, .unset] [(.int ((6 : Int32) >>> ((2 : Int32) &&& 31)))])) _
      refine XS.iconst X50.here hx rfl (hb hby at_30) ?_
      show Steps p.tables e below (T50.setTop (mkF m 31 #[.val (.int p0), .val (.int (2 : Int32)), .val (.ref wACTUAL_COSTING), .val (.int (0 : Int32)), .unset, .unset, .unset] [(.int (1 : Int32)), (.int ((6 : Int32) >>> ((2 : Int32) &&& 31)))])) _
      refine XS.iand X50.here hx rfl (hb hby at_31) rfl ?_
      show Steps p.tables e below (T50.setTop (mkF m 32 #[.val (.int p0), .val (.int (2 : Int32)), .val (.ref wACTUAL_COSTING), .val (.int (0 : Int32)), .unset, .unset, .unset] [(.int (((6 : Int32) >>> ((2 : Int32) &&& 31)) &&& (1 : Int32)))])) _
      refine XS.ifNo X50.here hx rfl (hb hby at_32) rfl ((if0 _ _).trans (feq ((by decide) : ¬ ((((6 : Int32) >>> ((2 : Int32) &&& 31)) &&& (1 : Int32)) = (0 : Int32)))).1) ?_
      show Steps p.tables e below (T50.setTop (mkF m 35 #[.val (.int p0), .val (.int (2 : Int32)), .val (.ref wACTUAL_COSTING), .val (.int (0 : Int32)), .unset, .unset, .unset] [])) _
      refine XS.iconst X50.here hx rfl (hb hby at_35) ?_
      show Steps p.tables e below (T50.setTop (mkF m 36 #[.val (.int p0), .val (.int (2 : Int32)), .val (.ref wACTUAL_COSTING), .val (.int (0 : Int32)), .unset, .unset, .unset] [(.int (1 : Int32))])) _
      refine XS.goto X50.here hx rfl (pc0 := 36) (pc' := 40) rfl (hb hby at_36) (by decide) (by decide) ?_
      show Steps p.tables e below (T50.setTop (mkF m 40 #[.val (.int p0), .val (.int (2 : Int32)), .val (.ref wACTUAL_COSTING), .val (.int (0 : Int32)), .unset, .unset, .unset] [(.int (1 : Int32))])) _
      refine XS.istore X50.here hx rfl (hb hby at_40) rfl (l' := #[.val (.int p0), .val (.int (2 : Int32)), .val (.ref wACTUAL_COSTING), .val (.int (0 : Int32)), .val (.int (1 : Int32)), .unset, .unset]) rfl ?_
      show Steps p.tables e below (T50.setTop (mkF m 42 #[.val (.int p0), .val (.int (2 : Int32)), .val (.ref wACTUAL_COSTING), .val (.int (0 : Int32)), .val (.int (1 : Int32)), .unset, .unset] [])) _
      refine st52 _ ?_
      show Steps p.tables e below (T52.setTop (mkF m 45 #[.val (.int p0), .val (.int (2 : Int32)), .val (.ref wACTUAL_COSTING), .val (.int (0 : Int32)), .val (.int (1 : Int32)), .unset, .unset] [(.ref wOFFER_Overview)])) _
      refine XS.aloadN X52.here hx rfl (hb hby at_45) rfl rfl ?_
      exact kt)
    rw [((by rw [f2, if_pos (rfl : wOFFER_Overview = wOFFER_Overview), if_neg ((Fld.ne FACTUAL_COSTING_ordinal FOFFER_ordinal (by decide)) : ¬ (wACTUAL_COSTING = wOFFER))]) : (f2 wOFFER_Overview wACTUAL_COSTING wOFFER wOFFER_Overview wORDER wORDER_StatusType wACTUAL_COSTING wHISTORY) = (0 : Int32))] at hQ53
    obtain ⟨rfl, N53q, e53⟩ := hQ53
    have N53 := Fr.app N50 N53q
    obtain ⟨T55, X55, e55, st55⟩ := getS2 X53 hx hZ hown (host := "") (Or.inl (hw _ (List.mem_of_getElem? (i := 18) rfl))) Via.refl e53 SORDER (g := (mkF m 51 #[.val (.int p0), .val (.int (2 : Int32)), .val (.ref wACTUAL_COSTING), .val (.int (0 : Int32)), .val (.int (1 : Int32)), .val (.int (0 : Int32)), .unset] [])) rfl (hb hby at_51)
    obtain ⟨cq56, kq56, q56a, q56b, q56c⟩ := isOf hZ e55 EORDER
    obtain ⟨_, _, ⟨T56, L56, k56, n56⟩, -, X56, ⟨Lc56, hQ56, l56, y56, z56⟩, st56⟩ := X55.virtualBack hx (y := (⟨"com/example/milepost/milepost/status/Overview", "owns", "(Lcom/example/milepost/milepost/status/StatusType;)Z"⟩ : MethodName)) (z := (⟨"com/example/milepost/milepost/status/Overview", "owns", "(Lcom/example/milepost/milepost/status/StatusType;)Z"⟩ : MethodName)) hown (mvT hZ (hw _ (List.mem_of_getElem? (i := 11) rfl))) (mvT hZ (hw _ (List.mem_of_getElem? (i := 12) rfl))) (notFace_of_selects (args := #[]) (mvT hZ (hw _ (List.mem_of_getElem? (i := 14) rfl)))) (mvT hZ (hw _ (List.mem_of_getElem? (i := 14) rfl))) (mvT hZ (hw _ (List.mem_of_getElem? (i := 13) rfl))) (by decide) (backOf (W := 0) (rm2 l Z a0 hw [] wORDER wACTUAL_COSTING wOFFER wOFFER_Overview wORDER wORDER_StatusType wACTUAL_COSTING wHISTORY h0 n0 Z0 W0 ) hZ (hw _ (List.mem_of_getElem? (i := 15) rfl)) (hw _ (List.mem_of_getElem? (i := 9) rfl)) (by decide) (by decide)) q56a q56c (g := (mkF m 55 #[.val (.int p0), .val (.int (2 : Int32)), .val (.ref wACTUAL_COSTING), .val (.int (0 : Int32)), .val (.int (1 : Int32)), .val (.int (0 : Int32)), .unset] [(.ref wACTUAL_COSTING), (.ref wORDER)])) rfl (by rw [hml]; rfl) (Steps.refl _) (argsL := [(.ref wACTUAL_COSTING)]) (rest := []) (lenOf pd_1 rfl) rfl (by show 2 * 0 + _ ≤ _; exact Nat.le_of_eq rfl) (hb hby at_55) (fun _ _ => ⟨rfl, e55, (by decide : 0 + 0 ≤ _), (by decide : 0 + 0 ≤ _)⟩)
    dsimp only [Pt.U, Pt.locs, Pt.cells, Pt.slots] at X56 l56 y56 z56 st56 hQ56
    subst l56 y56 z56
    unfold Q2 at hQ56
    have k57 : ∀ t, Steps p.tables e below (T55.setTop (mkF m 55 #[.val (.int p0), .val (.int (2 : Int32)), .val (.ref wACTUAL_COSTING), .val (.int (0 : Int32)), .val (.int (1 : Int32)), .val (.int (0 : Int32)), .unset] [(.ref wACTUAL_COSTING), (.ref wORDER)])) t → Steps p.tables e below (s₁.setTop (entryFrame m #[(.int p0)] maxLocals)) t := fun t kt => k54 t (by
      show Steps p.tables e below (T52.setTop (mkF m 46 #[.val (.int p0), .val (.int (2 : Int32)), .val (.ref wACTUAL_COSTING), .val (.int (0 : Int32)), .val (.int (1 : Int32)), .unset, .unset] [(.ref wACTUAL_COSTING), (.ref wOFFER_Overview)])) _
      refine st53.trans ?_
      show Steps p.tables e below (T53.setTop (mkF m 49 #[.val (.int p0), .val (.int (2 : Int32)), .val (.ref wACTUAL_COSTING), .val (.int (0 : Int32)), .val (.int (1 : Int32)), .unset, .unset] [(.int (0 : Int32))])) _
      refine XS.istore X53.here hx rfl (hb hby at_49) rfl (l' := #[.val (.int p0), .val (.int (2 : Int32)), .val (.ref wACTUAL_COSTING), .val (.int (0 : Int32)), .val (.int (1 : Int32)), .val (.int (0 : Int32)), .unset]) rfl ?_
      show Steps p.tables e below (T53.setTop (mkF m 51 #[.val (.int p0), .val (.int (2 : Int32)), .val (.ref wACTUAL_COSTING), .val (.int (0 : Int32)), .val (.int (1 : Int32)), .val (.int (0 : Int32)), .unset] [])) _
      refine st55 _ ?_
      show Steps p.tables e below (T55.setTop (mkF m 54 #[.val (.int p0), .val (.int (2 : Int32)), .val (.ref wACTUAL_COSTING), .val (.int (0 : Int32)), .val (.int (1 : Int32)), .val (.int (0 : Int32)), .unset] [(.ref wORDER)])) _
      refine XS.aloadN X55.here hx rfl (hb hby at_54) rfl rfl ?_
      exact kt)
    rw [((by rw [f2, if_neg ((Fld.ne FORDER_ordinal FOFFER_Overview_ordinal (by decide)) : ¬ (wORDER = wOFFER_Overview)), if_neg ((Fld.ne FACTUAL_COSTING_ordinal FORDER_StatusType_ordinal (by decide)) : ¬ (wACTUAL_COSTING = wORDER_StatusType)), if_pos (rfl : wACTUAL_COSTING = wACTUAL_COSTING)]) : (f2 wORDER wACTUAL_COSTING wOFFER wOFFER_Overview wORDER wORDER_StatusType wACTUAL_COSTING wHISTORY) = (1 : Int32))] at hQ56
    obtain ⟨rfl, N56q, e56⟩ := hQ56
    have N56 := Fr.app N53 N56q
    obtain ⟨fs, hr, hrun, hended, hW, hsame⟩ := X56.leave (v := some (.int (1 : Int32))) (fun h => by rw [Bd.returns] at h; cases h)
    refine ⟨_, _, k57 _ ?_, hrun, hended, _, _, rfl, ?_, ⟨_, rfl⟩, hW, hsame.mono (by decide) (by decide)⟩
    · show Steps p.tables e below (T55.setTop (mkF m 55 #[.val (.int p0), .val (.int (2 : Int32)), .val (.ref wACTUAL_COSTING), .val (.int (0 : Int32)), .val (.int (1 : Int32)), .val (.int (0 : Int32)), .unset] [(.ref wACTUAL_COSTING), (.ref wORDER)])) _
      refine st56.trans ?_
      show Steps p.tables e below (T56.setTop (mkF m 58 #[.val (.int p0), .val (.int (2 : Int32)), .val (.ref wACTUAL_COSTING), .val (.int (0 : Int32)), .val (.int (1 : Int32)), .val (.int (0 : Int32)), .unset] [(.int (1 : Int32))])) _
      refine XS.istore X56.here hx rfl (hb hby at_58) rfl (l' := #[.val (.int p0), .val (.int (2 : Int32)), .val (.ref wACTUAL_COSTING), .val (.int (0 : Int32)), .val (.int (1 : Int32)), .val (.int (0 : Int32)), .val (.int (1 : Int32))]) rfl ?_
      show Steps p.tables e below (T56.setTop (mkF m 60 #[.val (.int p0), .val (.int (2 : Int32)), .val (.ref wACTUAL_COSTING), .val (.int (0 : Int32)), .val (.int (1 : Int32)), .val (.int (0 : Int32)), .val (.int (1 : Int32))] [])) _
      refine XS.iload X56.here hx rfl (hb hby at_60) rfl ?_
      show Steps p.tables e below (T56.setTop (mkF m 62 #[.val (.int p0), .val (.int (2 : Int32)), .val (.ref wACTUAL_COSTING), .val (.int (0 : Int32)), .val (.int (1 : Int32)), .val (.int (0 : Int32)), .val (.int (1 : Int32))] [(.int (0 : Int32))])) _
      refine XS.iloadN X56.here hx rfl (hb hby at_62) rfl ?_
      show Steps p.tables e below (T56.setTop (mkF m 63 #[.val (.int p0), .val (.int (2 : Int32)), .val (.ref wACTUAL_COSTING), .val (.int (0 : Int32)), .val (.int (1 : Int32)), .val (.int (0 : Int32)), .val (.int (1 : Int32))] [(.int (0 : Int32)), (.int (0 : Int32))])) _
      refine XS.icmpNo X56.here hx rfl (hb hby at_63) rfl (teq (rfl : (0 : Int32) = (0 : Int32))).2 ?_
      show Steps p.tables e below (T56.setTop (mkF m 66 #[.val (.int p0), .val (.int (2 : Int32)), .val (.ref wACTUAL_COSTING), .val (.int (0 : Int32)), .val (.int (1 : Int32)), .val (.int (0 : Int32)), .val (.int (1 : Int32))] [])) _
      refine XS.iload X56.here hx rfl (hb hby at_66) rfl ?_
      show Steps p.tables e below (T56.setTop (mkF m 68 #[.val (.int p0), .val (.int (2 : Int32)), .val (.ref wACTUAL_COSTING), .val (.int (0 : Int32)), .val (.int (1 : Int32)), .val (.int (0 : Int32)), .val (.int (1 : Int32))] [(.int (1 : Int32))])) _
      refine XS.iload X56.here hx rfl (hb hby at_68) rfl ?_
      show Steps p.tables e below (T56.setTop (mkF m 70 #[.val (.int p0), .val (.int (2 : Int32)), .val (.ref wACTUAL_COSTING), .val (.int (0 : Int32)), .val (.int (1 : Int32)), .val (.int (0 : Int32)), .val (.int (1 : Int32))] [(.int (1 : Int32)), (.int (1 : Int32))])) _
      refine XS.icmpNo X56.here hx rfl (hb hby at_70) rfl (teq (rfl : (1 : Int32) = (1 : Int32))).2 ?_
      show Steps p.tables e below (T56.setTop (mkF m 73 #[.val (.int p0), .val (.int (2 : Int32)), .val (.ref wACTUAL_COSTING), .val (.int (0 : Int32)), .val (.int (1 : Int32)), .val (.int (0 : Int32)), .val (.int (1 : Int32))] [])) _
      refine XS.iconst X56.here hx rfl (hb hby at_73) ?_
      show Steps p.tables e below (T56.setTop (mkF m 74 #[.val (.int p0), .val (.int (2 : Int32)), .val (.ref wACTUAL_COSTING), .val (.int (0 : Int32)), .val (.int (1 : Int32)), .val (.int (0 : Int32)), .val (.int (1 : Int32))] [(.int (1 : Int32))])) _
      refine XS.goto X56.here hx rfl (pc0 := 74) (pc' := 78) rfl (hb hby at_74) (by decide) (by decide) ?_
      show Steps p.tables e below (T56.setTop (mkF m 78 #[.val (.int p0), .val (.int (2 : Int32)), .val (.ref wACTUAL_COSTING), .val (.int (0 : Int32)), .val (.int (1 : Int32)), .val (.int (0 : Int32)), .val (.int (1 : Int32))] [(.int (1 : Int32))])) _
      exact retN X56 hx (t := .boolean) Bd.returns (by simp) (hb hby at_78) hr
    · show Q0 Z p0 wOFFER wOFFER_Overview wORDER wORDER_StatusType wACTUAL_COSTING wHISTORY h0 n0 _ T56.heap _
      rw [e56]
      exact ⟨rfl, N56⟩
  · subst hv33
    obtain ⟨_, _, ⟨T58, L58, k58, n58⟩, -, X58, ⟨Lc58, hQ58, l58, y58, z58⟩, st58⟩ := Jvm.LawKit.callS X0 hx (y := (⟨"com/example/milepost/milepost/status/OverviewOwnsPinLaw", "typeOf", "(I)Lcom/example/milepost/milepost/status/StatusType;"⟩ : MethodName)) hown (mvT hZ (hw _ (List.mem_of_getElem? (i := 1) rfl))) (mvT hZ (hw _ (List.mem_of_getElem? (i := 2) rfl))) (mvT hZ (hw _ (List.mem_of_getElem? (i := 3) rfl))) (mvT hZ (hw _ (List.mem_of_getElem? (i := 4) rfl))) (by decide) (backOf (W := 0) (rm1 l Z a0 hw [] (3 : Int32) wOFFER wOFFER_Overview wORDER wORDER_StatusType wACTUAL_COSTING wHISTORY h0 n0 Z0 W0 ) hZ (hw _ (List.mem_of_getElem? (i := 4) rfl)) (hw _ (List.mem_of_getElem? (i := 3) rfl)) (by decide) (by decide)) (g := (mkF m 8 #[.val (.int p0), .val (.int (3 : Int32)), .unset, .unset, .unset, .unset, .unset] [(.int (3 : Int32))])) rfl (by rw [hml]; rfl) (argsL := [(.int (3 : Int32))]) (rest := []) (lenOf pd_0 rfl) rfl (by show 2 * 0 + _ ≤ _; exact Nat.le_of_eq rfl) (hb hby at_8) (fun _ _ => ⟨rfl, e0, (by decide : 0 + 0 ≤ _), (by decide : 0 + 0 ≤ _)⟩)
    dsimp only [Pt.U, Pt.locs, Pt.cells, Pt.slots] at X58 l58 y58 z58 st58 hQ58
    subst l58 y58 z58
    unfold Q1 at hQ58
    have k59 : ∀ t, Steps p.tables e below (s₁.setTop (mkF m 8 #[.val (.int p0), .val (.int (3 : Int32)), .unset, .unset, .unset, .unset, .unset] [(.int (3 : Int32))])) t → Steps p.tables e below (s₁.setTop (entryFrame m #[(.int p0)] maxLocals)) t := fun t kt => k32 t (by
      show Steps p.tables e below (s₁.setTop (mkF m 7 #[.val (.int p0), .val (.int (3 : Int32)), .unset, .unset, .unset, .unset, .unset] [])) _
      refine XS.iloadN X0.here hx rfl (hb hby at_7) rfl ?_
      exact kt)
    rw [((by rw [f1, if_neg ((by decide) : ¬ ((3 : Int32) = (0 : Int32))), if_neg ((by decide) : ¬ ((3 : Int32) = (1 : Int32))), if_neg ((by decide) : ¬ ((3 : Int32) = (2 : Int32))), if_pos (rfl : (3 : Int32) = (3 : Int32))]) : (f1 (3 : Int32) wOFFER wOFFER_Overview wORDER wORDER_StatusType wACTUAL_COSTING wHISTORY) = (.ref wHISTORY))] at hQ58
    obtain ⟨rfl, N58q, e58⟩ := hQ58
    have N58 := Fr.app N0 N58q
    obtain ⟨T60, X60, e60, st60⟩ := getS2 X58 hx hZ hown (host := "") (Or.inl (hw _ (List.mem_of_getElem? (i := 8) rfl))) Via.refl e58 SOFFER_Overview (g := (mkF m 42 #[.val (.int p0), .val (.int (3 : Int32)), .val (.ref wHISTORY), .val (.int (0 : Int32)), .val (.int (0 : Int32)), .unset, .unset] [])) rfl (hb hby at_42)
    obtain ⟨cq61, kq61, q61a, q61b, q61c⟩ := isOf hZ e60 EOFFER_Overview
    obtain ⟨_, _, ⟨T61, L61, k61, n61⟩, -, X61, ⟨Lc61, hQ61, l61, y61, z61⟩, st61⟩ := X60.virtualBack hx (y := (⟨"com/example/milepost/milepost/status/Overview", "owns", "(Lcom/example/milepost/milepost/status/StatusType;)Z"⟩ : MethodName)) (z := (⟨"com/example/milepost/milepost/status/Overview", "owns", "(Lcom/example/milepost/milepost/status/StatusType;)Z"⟩ : MethodName)) hown (mvT hZ (hw _ (List.mem_of_getElem? (i := 11) rfl))) (mvT hZ (hw _ (List.mem_of_getElem? (i := 12) rfl))) (notFace_of_selects (args := #[]) (mvT hZ (hw _ (List.mem_of_getElem? (i := 14) rfl)))) (mvT hZ (hw _ (List.mem_of_getElem? (i := 14) rfl))) (mvT hZ (hw _ (List.mem_of_getElem? (i := 13) rfl))) (by decide) (backOf (W := 0) (rm2 l Z a0 hw [] wOFFER_Overview wHISTORY wOFFER wOFFER_Overview wORDER wORDER_StatusType wACTUAL_COSTING wHISTORY h0 n0 Z0 W0 ) hZ (hw _ (List.mem_of_getElem? (i := 15) rfl)) (hw _ (List.mem_of_getElem? (i := 9) rfl)) (by decide) (by decide)) q61a q61c (g := (mkF m 46 #[.val (.int p0), .val (.int (3 : Int32)), .val (.ref wHISTORY), .val (.int (0 : Int32)), .val (.int (0 : Int32)), .unset, .unset] [(.ref wHISTORY), (.ref wOFFER_Overview)])) rfl (by rw [hml]; rfl) (Steps.refl _) (argsL := [(.ref wHISTORY)]) (rest := []) (lenOf pd_1 rfl) rfl (by show 2 * 0 + _ ≤ _; exact Nat.le_of_eq rfl) (hb hby at_46) (fun _ _ => ⟨rfl, e60, (by decide : 0 + 0 ≤ _), (by decide : 0 + 0 ≤ _)⟩)
    dsimp only [Pt.U, Pt.locs, Pt.cells, Pt.slots] at X61 l61 y61 z61 st61 hQ61
    subst l61 y61 z61
    unfold Q2 at hQ61
    have k62 : ∀ t, Steps p.tables e below (T60.setTop (mkF m 46 #[.val (.int p0), .val (.int (3 : Int32)), .val (.ref wHISTORY), .val (.int (0 : Int32)), .val (.int (0 : Int32)), .unset, .unset] [(.ref wHISTORY), (.ref wOFFER_Overview)])) t → Steps p.tables e below (s₁.setTop (entryFrame m #[(.int p0)] maxLocals)) t := fun t kt => k59 t (by
      show Steps p.tables e below (s₁.setTop (mkF m 8 #[.val (.int p0), .val (.int (3 : Int32)), .unset, .unset, .unset, .unset, .unset] [(.int (3 : Int32))])) _
      refine st58 _ ?_
      show Steps p.tables e below (T58.setTop (mkF m 11 #[.val (.int p0), .val (.int (3 : Int32)), .unset, .unset, .unset, .unset, .unset] [(.ref wHISTORY)])) _
      refine XS.astoreN X58.here hx rfl (hb hby at_11) rfl rfl (l' := #[.val (.int p0), .val (.int (3 : Int32)), .val (.ref wHISTORY), .unset, .unset, .unset, .unset]) rfl ?_
      show Steps p.tables e below (T58.setTop (mkF m 12 #[.val (.int p0), .val (.int (3 : Int32)), .val (.ref wHISTORY), .unset, .unset, .unset, .unset] [])) _
      refine XS.iconst X58.here hx rfl (hb hby at_12) ?_
      show Steps p.tables e below (T58.setTop (mkF m 13 #[.val (.int p0), .val (.int (3 : Int32)), .val (.ref wHISTORY), .unset, .unset, .unset, .unset] [(.int (1 : Int32))])) _
      refine XS.iloadN X58.here hx rfl (hb hby at_13) rfl ?_
      show Steps p.tables e below (T58.setTop (mkF m 14 #[.val (.int p0), .val (.int (3 : Int32)), .val (.ref wHISTORY), .unset, .unset, .unset, .unset] [(.int (3 : Int32)), (.int (1 : Int32))])) _
      refine XS.ishr X58.here hx rfl (hb hby at_14) rfl ?_
      show Steps p.tables e below (T58.setTop (mkF m 15 #[.val (.int p0), .val (.int (3 : Int32)), .val (.ref wHISTORY), .unset, .unset, .unset, .unset] [(.int ((1 : Int32) >>> ((3 : Int32) &&& 31)))])) _
      refine XS.iconst X58.here hx rfl (hb hby at_15) ?_
      show Steps p.tables e below (T58.setTop (mkF m 16 #[.val (.int p0), .val (.int (3 : Int32)), .val (.ref wHISTORY), .unset, .unset, .unset, .unset] [(.int (1 : Int32)), (.int ((1 : Int32) >>> ((3 : Int32) &&& 31)))])) _
      refine XS.iand X58.here hx rfl (hb hby at_16) rfl ?_
      show Steps p.tables e below (T58.setTop (mkF m 17 #[.val (.int p0), .val (.int (3 : Int32)), .val (.ref wHISTORY), .unset, .unset, .unset, .unset] [(.int (((1 : Int32) >>> ((3 : Int32) &&& 31)) &&& (1 : Int32)))])) _
      refine XS.ifYes X58.here hx rfl (pc0 := 17) (pc' := 24) rfl (hb hby at_17) rfl ((if0 _ _).trans (teq ((by decide) : (((1 : Int32) >>> ((3 : Int32) &&& 31)) &&& (1 : Int32)) = (0 : Int32))).1) (by decide) (by decide) ?_
      show Steps p.tables e below (T58.setTop (mkF m 24 #[.val (.int p0), .val (.int (3 : Int32)), .val (.ref wHISTORY), .unset, .unset, .unset, .unset] [])) _
      refine XS.iconst X58.here hx rfl (hb hby at_24) ?_
      show Steps p.tables e below (T58.setTop (mkF m 25 #[.val (.int p0), .val (.int (3 : Int32)), .val (.ref wHISTORY), .unset, .unset, .unset, .unset] [(.int (0 : Int32))])) _
      refine XS.istoreN X58.here hx rfl (hb hby at_25) rfl (l' := #[.val (.int p0), .val (.int (3 : Int32)), .val (.ref wHISTORY), .val (.int (0 : Int32)), .unset, .unset, .unset]) rfl ?_
      show Steps p.tables e below (T58.setTop (mkF m 26 #[.val (.int p0), .val (.int (3 : Int32)), .val (.ref wHISTORY), .val (.int (0 : Int32)), .unset, .unset, .unset] [])) _
      refine XS.bipush X58.here hx rfl (hb hby at_26) ?_
      show Steps p.tables e below (T58.setTop (mkF m 28 #[.val (.int p0), .val (.int (3 : Int32)), .val (.ref wHISTORY), .val (.int (0 : Int32)), .unset, .unset, .unset] [(.int (6 : Int32))])) _
      refine XS.iloadN X58.here hx rfl (hb hby at_28) rfl ?_
      show Steps p.tables e below (T58.setTop (mkF m 29 #[.val (.int p0), .val (.int (3 : Int32)), .val (.ref wHISTORY), .val (.int (0 : Int32)), .unset, .unset, .unset] [(.int (3 : Int32)), (.int (6 : Int32))])) _
      refine XS.ishr X58.here hx rfl (hb hby at_29) rfl ?_
      show Steps p.tables e below (T58.setTop (mkF m 30 #[.val (.int p0), .val (.int (3 : Int32)), .val (.ref wHISTORY), .val (.int (0 : Int32)), .unset, .unset, .unset] [(.int ((6 : Int32) >>> ((3 : Int32) &&& 31)))])) _
      refine XS.iconst X58.here hx rfl (hb hby at_30) ?_
      show Steps p.tables e below (T58.setTop (mkF m 31 #[.val (.int p0), .val (.int (3 : Int32)), .val (.ref wHISTORY), .val (.int (0 : Int32)), .unset, .unset, .unset] [(.int (1 : Int32)), (.int ((6 : Int32) >>> ((3 : Int32) &&& 31)))])) _
      refine XS.iand X58.here hx rfl (hb hby at_31) rfl ?_
      show Steps p.tables e below (T58.setTop (mkF m 32 #[.val (.int p0), .val (.int (3 : Int32)), .val (.ref wHISTORY), .val (.int (0 : Int32)), .unset, .unset, .unset] [(.int (((6 : Int32) >>> ((3 : Int32) &&& 31)) &&& (1 : Int32)))])) _
      refine XS.ifYes X58.here hx rfl (pc0 := 32) (pc' := 39) rfl (hb hby at_32) rfl ((if0 _ _).trans (teq ((by decide) : (((6 : Int32) >>> ((3 : Int32) &&& 31)) &&& (1 : Int32)) = (0 : Int32))).1) (by decide) (by decide) ?_
      show Steps p.tables e below (T58.setTop (mkF m 39 #[.val (.int p0), .val (.int (3 : Int32)), .val (.ref wHISTORY), .val (.int (0 : Int32)), .unset, .unset, .unset] [])) _
      refine XS.iconst X58.here hx rfl (hb hby at_39) ?_
      show Steps p.tables e below (T58.setTop (mkF m 40 #[.val (.int p0), .val (.int (3 : Int32)), .val (.ref wHISTORY), .val (.int (0 : Int32)), .unset, .unset, .unset] [(.int (0 : Int32))])) _
      refine XS.istore X58.here hx rfl (hb hby at_40) rfl (l' := #[.val (.int p0), .val (.int (3 : Int32)), .val (.ref wHISTORY), .val (.int (0 : Int32)), .val (.int (0 : Int32)), .unset, .unset]) rfl ?_
      show Steps p.tables e below (T58.setTop (mkF m 42 #[.val (.int p0), .val (.int (3 : Int32)), .val (.ref wHISTORY), .val (.int (0 : Int32)), .val (.int (0 : Int32)), .unset, .unset] [])) _
      refine st60 _ ?_
      show Steps p.tables e below (T60.setTop (mkF m 45 #[.val (.int p0), .val (.int (3 : Int32)), .val (.ref wHISTORY), .val (.int (0 : Int32)), .val (.int (0 : Int32)), .unset, .unset] [(.ref wOFFER_Overview)])) _
      refine XS.aloadN X60.here hx rfl (hb hby at_45) rfl rfl ?_
      exact kt)
    rw [((by rw [f2, if_pos (rfl : wOFFER_Overview = wOFFER_Overview), if_neg ((Fld.ne FHISTORY_ordinal FOFFER_ordinal (by decide)) : ¬ (wHISTORY = wOFFER))]) : (f2 wOFFER_Overview wHISTORY wOFFER wOFFER_Overview wORDER wORDER_StatusType wACTUAL_COSTING wHISTORY) = (0 : Int32))] at hQ61
    obtain ⟨rfl, N61q, e61⟩ := hQ61
    have N61 := Fr.app N58 N61q
    obtain ⟨T63, X63, e63, st63⟩ := getS2 X61 hx hZ hown (host := "") (Or.inl (hw _ (List.mem_of_getElem? (i := 18) rfl))) Via.refl e61 SORDER (g := (mkF m 51 #[.val (.int p0), .val (.int (3 : Int32)), .val (.ref wHISTORY), .val (.int (0 : Int32)), .val (.int (0 : Int32)), .val (.int (0 : Int32)), .unset] [])) rfl (hb hby at_51)
    obtain ⟨cq64, kq64, q64a, q64b, q64c⟩ := isOf hZ e63 EORDER
    obtain ⟨_, _, ⟨T64, L64, k64, n64⟩, -, X64, ⟨Lc64, hQ64, l64, y64, z64⟩, st64⟩ := X63.virtualBack hx (y := (⟨"com/example/milepost/milepost/status/Overview", "owns", "(Lcom/example/milepost/milepost/status/StatusType;)Z"⟩ : MethodName)) (z := (⟨"com/example/milepost/milepost/status/Overview", "owns", "(Lcom/example/milepost/milepost/status/StatusType;)Z"⟩ : MethodName)) hown (mvT hZ (hw _ (List.mem_of_getElem? (i := 11) rfl))) (mvT hZ (hw _ (List.mem_of_getElem? (i := 12) rfl))) (notFace_of_selects (args := #[]) (mvT hZ (hw _ (List.mem_of_getElem? (i := 14) rfl)))) (mvT hZ (hw _ (List.mem_of_getElem? (i := 14) rfl))) (mvT hZ (hw _ (List.mem_of_getElem? (i := 13) rfl))) (by decide) (backOf (W := 0) (rm2 l Z a0 hw [] wORDER wHISTORY wOFFER wOFFER_Overview wORDER wORDER_StatusType wACTUAL_COSTING wHISTORY h0 n0 Z0 W0 ) hZ (hw _ (List.mem_of_getElem? (i := 15) rfl)) (hw _ (List.mem_of_getElem? (i := 9) rfl)) (by decide) (by decide)) q64a q64c (g := (mkF m 55 #[.val (.int p0), .val (.int (3 : Int32)), .val (.ref wHISTORY), .val (.int (0 : Int32)), .val (.int (0 : Int32)), .val (.int (0 : Int32)), .unset] [(.ref wHISTORY), (.ref wORDER)])) rfl (by rw [hml]; rfl) (Steps.refl _) (argsL := [(.ref wHISTORY)]) (rest := []) (lenOf pd_1 rfl) rfl (by show 2 * 0 + _ ≤ _; exact Nat.le_of_eq rfl) (hb hby at_55) (fun _ _ => ⟨rfl, e63, (by decide : 0 + 0 ≤ _), (by decide : 0 + 0 ≤ _)⟩)
    dsimp only [Pt.U, Pt.locs, Pt.cells, Pt.slots] at X64 l64 y64 z64 st64 hQ64
    subst l64 y64 z64
    unfold Q2 at hQ64
    have k65 : ∀ t, Steps p.tables e below (T63.setTop (mkF m 55 #[.val (.int p0), .val (.int (3 : Int32)), .val (.ref wHISTORY), .val (.int (0 : Int32)), .val (.int (0 : Int32)), .val (.int (0 : Int32)), .unset] [(.ref wHISTORY), (.ref wORDER)])) t → Steps p.tables e below (s₁.setTop (entryFrame m #[(.int p0)] maxLocals)) t := fun t kt => k62 t (by
      show Steps p.tables e below (T60.setTop (mkF m 46 #[.val (.int p0), .val (.int (3 : Int32)), .val (.ref wHISTORY), .val (.int (0 : Int32)), .val (.int (0 : Int32)), .unset, .unset] [(.ref wHISTORY), (.ref wOFFER_Overview)])) _
      refine st61.trans ?_
      show Steps p.tables e below (T61.setTop (mkF m 49 #[.val (.int p0), .val (.int (3 : Int32)), .val (.ref wHISTORY), .val (.int (0 : Int32)), .val (.int (0 : Int32)), .unset, .unset] [(.int (0 : Int32))])) _
      refine XS.istore X61.here hx rfl (hb hby at_49) rfl (l' := #[.val (.int p0), .val (.int (3 : Int32)), .val (.ref wHISTORY), .val (.int (0 : Int32)), .val (.int (0 : Int32)), .val (.int (0 : Int32)), .unset]) rfl ?_
      show Steps p.tables e below (T61.setTop (mkF m 51 #[.val (.int p0), .val (.int (3 : Int32)), .val (.ref wHISTORY), .val (.int (0 : Int32)), .val (.int (0 : Int32)), .val (.int (0 : Int32)), .unset] [])) _
      refine st63 _ ?_
      show Steps p.tables e below (T63.setTop (mkF m 54 #[.val (.int p0), .val (.int (3 : Int32)), .val (.ref wHISTORY), .val (.int (0 : Int32)), .val (.int (0 : Int32)), .val (.int (0 : Int32)), .unset] [(.ref wORDER)])) _
      refine XS.aloadN X63.here hx rfl (hb hby at_54) rfl rfl ?_
      exact kt)
    rw [((by rw [f2, if_neg ((Fld.ne FORDER_ordinal FOFFER_Overview_ordinal (by decide)) : ¬ (wORDER = wOFFER_Overview)), if_neg ((Fld.ne FHISTORY_ordinal FORDER_StatusType_ordinal (by decide)) : ¬ (wHISTORY = wORDER_StatusType)), if_neg ((Fld.ne FHISTORY_ordinal FACTUAL_COSTING_ordinal (by decide)) : ¬ (wHISTORY = wACTUAL_COSTING))]) : (f2 wORDER wHISTORY wOFFER wOFFER_Overview wORDER wORDER_StatusType wACTUAL_COSTING wHISTORY) = (0 : Int32))] at hQ64
    obtain ⟨rfl, N64q, e64⟩ := hQ64
    have N64 := Fr.app N61 N64q
    obtain ⟨fs, hr, hrun, hended, hW, hsame⟩ := X64.leave (v := some (.int (1 : Int32))) (fun h => by rw [Bd.returns] at h; cases h)
    refine ⟨_, _, k65 _ ?_, hrun, hended, _, _, rfl, ?_, ⟨_, rfl⟩, hW, hsame.mono (by decide) (by decide)⟩
    · show Steps p.tables e below (T63.setTop (mkF m 55 #[.val (.int p0), .val (.int (3 : Int32)), .val (.ref wHISTORY), .val (.int (0 : Int32)), .val (.int (0 : Int32)), .val (.int (0 : Int32)), .unset] [(.ref wHISTORY), (.ref wORDER)])) _
      refine st64.trans ?_
      show Steps p.tables e below (T64.setTop (mkF m 58 #[.val (.int p0), .val (.int (3 : Int32)), .val (.ref wHISTORY), .val (.int (0 : Int32)), .val (.int (0 : Int32)), .val (.int (0 : Int32)), .unset] [(.int (0 : Int32))])) _
      refine XS.istore X64.here hx rfl (hb hby at_58) rfl (l' := #[.val (.int p0), .val (.int (3 : Int32)), .val (.ref wHISTORY), .val (.int (0 : Int32)), .val (.int (0 : Int32)), .val (.int (0 : Int32)), .val (.int (0 : Int32))]) rfl ?_
      show Steps p.tables e below (T64.setTop (mkF m 60 #[.val (.int p0), .val (.int (3 : Int32)), .val (.ref wHISTORY), .val (.int (0 : Int32)), .val (.int (0 : Int32)), .val (.int (0 : Int32)), .val (.int (0 : Int32))] [])) _
      refine XS.iload X64.here hx rfl (hb hby at_60) rfl ?_
      show Steps p.tables e below (T64.setTop (mkF m 62 #[.val (.int p0), .val (.int (3 : Int32)), .val (.ref wHISTORY), .val (.int (0 : Int32)), .val (.int (0 : Int32)), .val (.int (0 : Int32)), .val (.int (0 : Int32))] [(.int (0 : Int32))])) _
      refine XS.iloadN X64.here hx rfl (hb hby at_62) rfl ?_
      show Steps p.tables e below (T64.setTop (mkF m 63 #[.val (.int p0), .val (.int (3 : Int32)), .val (.ref wHISTORY), .val (.int (0 : Int32)), .val (.int (0 : Int32)), .val (.int (0 : Int32)), .val (.int (0 : Int32))] [(.int (0 : Int32)), (.int (0 : Int32))])) _
      refine XS.icmpNo X64.here hx rfl (hb hby at_63) rfl (teq (rfl : (0 : Int32) = (0 : Int32))).2 ?_
      show Steps p.tables e below (T64.setTop (mkF m 66 #[.val (.int p0), .val (.int (3 : Int32)), .val (.ref wHISTORY), .val (.int (0 : Int32)), .val (.int (0 : Int32)), .val (.int (0 : Int32)), .val (.int (0 : Int32))] [])) _
      refine XS.iload X64.here hx rfl (hb hby at_66) rfl ?_
      show Steps p.tables e below (T64.setTop (mkF m 68 #[.val (.int p0), .val (.int (3 : Int32)), .val (.ref wHISTORY), .val (.int (0 : Int32)), .val (.int (0 : Int32)), .val (.int (0 : Int32)), .val (.int (0 : Int32))] [(.int (0 : Int32))])) _
      refine XS.iload X64.here hx rfl (hb hby at_68) rfl ?_
      show Steps p.tables e below (T64.setTop (mkF m 70 #[.val (.int p0), .val (.int (3 : Int32)), .val (.ref wHISTORY), .val (.int (0 : Int32)), .val (.int (0 : Int32)), .val (.int (0 : Int32)), .val (.int (0 : Int32))] [(.int (0 : Int32)), (.int (0 : Int32))])) _
      refine XS.icmpNo X64.here hx rfl (hb hby at_70) rfl (teq (rfl : (0 : Int32) = (0 : Int32))).2 ?_
      show Steps p.tables e below (T64.setTop (mkF m 73 #[.val (.int p0), .val (.int (3 : Int32)), .val (.ref wHISTORY), .val (.int (0 : Int32)), .val (.int (0 : Int32)), .val (.int (0 : Int32)), .val (.int (0 : Int32))] [])) _
      refine XS.iconst X64.here hx rfl (hb hby at_73) ?_
      show Steps p.tables e below (T64.setTop (mkF m 74 #[.val (.int p0), .val (.int (3 : Int32)), .val (.ref wHISTORY), .val (.int (0 : Int32)), .val (.int (0 : Int32)), .val (.int (0 : Int32)), .val (.int (0 : Int32))] [(.int (1 : Int32))])) _
      refine XS.goto X64.here hx rfl (pc0 := 74) (pc' := 78) rfl (hb hby at_74) (by decide) (by decide) ?_
      show Steps p.tables e below (T64.setTop (mkF m 78 #[.val (.int p0), .val (.int (3 : Int32)), .val (.ref wHISTORY), .val (.int (0 : Int32)), .val (.int (0 : Int32)), .val (.int (0 : Int32)), .val (.int (0 : Int32))] [(.int (1 : Int32))])) _
      exact retN X64 hx (t := .boolean) Bd.returns (by simp) (hb hby at_78) hr
    · show Q0 Z p0 wOFFER wOFFER_Overview wORDER wORDER_StatusType wACTUAL_COSTING wHISTORY h0 n0 _ T64.heap _
      rw [e64]
      exact ⟨rfl, N64⟩
  · subst hv33
    obtain ⟨_, _, ⟨T66, L66, k66, n66⟩, -, X66, ⟨Lc66, hQ66, l66, y66, z66⟩, st66⟩ := Jvm.LawKit.callS X0 hx (y := (⟨"com/example/milepost/milepost/status/OverviewOwnsPinLaw", "typeOf", "(I)Lcom/example/milepost/milepost/status/StatusType;"⟩ : MethodName)) hown (mvT hZ (hw _ (List.mem_of_getElem? (i := 1) rfl))) (mvT hZ (hw _ (List.mem_of_getElem? (i := 2) rfl))) (mvT hZ (hw _ (List.mem_of_getElem? (i := 3) rfl))) (mvT hZ (hw _ (List.mem_of_getElem? (i := 4) rfl))) (by decide) (backOf (W := 0) (rm1 l Z a0 hw [] (4 : Int32) wOFFER wOFFER_Overview wORDER wORDER_StatusType wACTUAL_COSTING wHISTORY h0 n0 Z0 W0 ) hZ (hw _ (List.mem_of_getElem? (i := 4) rfl)) (hw _ (List.mem_of_getElem? (i := 3) rfl)) (by decide) (by decide)) (g := (mkF m 8 #[.val (.int p0), .val (.int (4 : Int32)), .unset, .unset, .unset, .unset, .unset] [(.int (4 : Int32))])) rfl (by rw [hml]; rfl) (argsL := [(.int (4 : Int32))]) (rest := []) (lenOf pd_0 rfl) rfl (by show 2 * 0 + _ ≤ _; exact Nat.le_of_eq rfl) (hb hby at_8) (fun _ _ => ⟨rfl, e0, (by decide : 0 + 0 ≤ _), (by decide : 0 + 0 ≤ _)⟩)
    dsimp only [Pt.U, Pt.locs, Pt.cells, Pt.slots] at X66 l66 y66 z66 st66 hQ66
    subst l66 y66 z66
    unfold Q1 at hQ66
    have k67 : ∀ t, Steps p.tables e below (s₁.setTop (mkF m 8 #[.val (.int p0), .val (.int (4 : Int32)), .unset, .unset, .unset, .unset, .unset] [(.int (4 : Int32))])) t → Steps p.tables e below (s₁.setTop (entryFrame m #[(.int p0)] maxLocals)) t := fun t kt => k32 t (by
      show Steps p.tables e below (s₁.setTop (mkF m 7 #[.val (.int p0), .val (.int (4 : Int32)), .unset, .unset, .unset, .unset, .unset] [])) _
      refine XS.iloadN X0.here hx rfl (hb hby at_7) rfl ?_
      exact kt)
    rw [((by rw [f1, if_neg ((by decide) : ¬ ((4 : Int32) = (0 : Int32))), if_neg ((by decide) : ¬ ((4 : Int32) = (1 : Int32))), if_neg ((by decide) : ¬ ((4 : Int32) = (2 : Int32))), if_neg ((by decide) : ¬ ((4 : Int32) = (3 : Int32)))]) : (f1 (4 : Int32) wOFFER wOFFER_Overview wORDER wORDER_StatusType wACTUAL_COSTING wHISTORY) = .null)] at hQ66
    obtain ⟨rfl, N66q, e66⟩ := hQ66
    have N66 := Fr.app N0 N66q
    obtain ⟨T68, X68, e68, st68⟩ := getS2 X66 hx hZ hown (host := "") (Or.inl (hw _ (List.mem_of_getElem? (i := 8) rfl))) Via.refl e66 SOFFER_Overview (g := (mkF m 42 #[.val (.int p0), .val (.int (4 : Int32)), .val .null, .val (.int (0 : Int32)), .val (.int (0 : Int32)), .unset, .unset] [])) rfl (hb hby at_42)
    obtain ⟨cq69, kq69, q69a, q69b, q69c⟩ := isOf hZ e68 EOFFER_Overview
    obtain ⟨_, _, ⟨T69, L69, k69, n69⟩, -, X69, ⟨Lc69, hQ69, l69, y69, z69⟩, st69⟩ := X68.virtualBack hx (y := (⟨"com/example/milepost/milepost/status/Overview", "owns", "(Lcom/example/milepost/milepost/status/StatusType;)Z"⟩ : MethodName)) (z := (⟨"com/example/milepost/milepost/status/Overview", "owns", "(Lcom/example/milepost/milepost/status/StatusType;)Z"⟩ : MethodName)) hown (mvT hZ (hw _ (List.mem_of_getElem? (i := 11) rfl))) (mvT hZ (hw _ (List.mem_of_getElem? (i := 12) rfl))) (notFace_of_selects (args := #[]) (mvT hZ (hw _ (List.mem_of_getElem? (i := 14) rfl)))) (mvT hZ (hw _ (List.mem_of_getElem? (i := 14) rfl))) (mvT hZ (hw _ (List.mem_of_getElem? (i := 13) rfl))) (by decide) (backOf (W := 0) (rm3 l Z a0 hw [] wOFFER_Overview wOFFER wOFFER_Overview wORDER wORDER_StatusType wACTUAL_COSTING wHISTORY h0 n0 Z0 W0 ) hZ (hw _ (List.mem_of_getElem? (i := 15) rfl)) (hw _ (List.mem_of_getElem? (i := 9) rfl)) (by decide) (by decide)) q69a q69c (g := (mkF m 46 #[.val (.int p0), .val (.int (4 : Int32)), .val .null, .val (.int (0 : Int32)), .val (.int (0 : Int32)), .unset, .unset] [.null, (.ref wOFFER_Overview)])) rfl (by rw [hml]; rfl) (Steps.refl _) (argsL := [.null]) (rest := []) (lenOf pd_1 rfl) rfl (by show 2 * 0 + _ ≤ _; exact Nat.le_of_eq rfl) (hb hby at_46) (fun _ _ => ⟨rfl, e68, (by decide : 0 + 0 ≤ _), (by decide : 0 + 0 ≤ _)⟩)
    dsimp only [Pt.U, Pt.locs, Pt.cells, Pt.slots] at X69 l69 y69 z69 st69 hQ69
    subst l69 y69 z69
    unfold Q3 at hQ69
    have k70 : ∀ t, Steps p.tables e below (T68.setTop (mkF m 46 #[.val (.int p0), .val (.int (4 : Int32)), .val .null, .val (.int (0 : Int32)), .val (.int (0 : Int32)), .unset, .unset] [.null, (.ref wOFFER_Overview)])) t → Steps p.tables e below (s₁.setTop (entryFrame m #[(.int p0)] maxLocals)) t := fun t kt => k67 t (by
      show Steps p.tables e below (s₁.setTop (mkF m 8 #[.val (.int p0), .val (.int (4 : Int32)), .unset, .unset, .unset, .unset, .unset] [(.int (4 : Int32))])) _
      refine st66 _ ?_
      show Steps p.tables e below (T66.setTop (mkF m 11 #[.val (.int p0), .val (.int (4 : Int32)), .unset, .unset, .unset, .unset, .unset] [.null])) _
      refine XS.astoreN X66.here hx rfl (hb hby at_11) rfl rfl (l' := #[.val (.int p0), .val (.int (4 : Int32)), .val .null, .unset, .unset, .unset, .unset]) rfl ?_
      show Steps p.tables e below (T66.setTop (mkF m 12 #[.val (.int p0), .val (.int (4 : Int32)), .val .null, .unset, .unset, .unset, .unset] [])) _
      refine XS.iconst X66.here hx rfl (hb hby at_12) ?_
      show Steps p.tables e below (T66.setTop (mkF m 13 #[.val (.int p0), .val (.int (4 : Int32)), .val .null, .unset, .unset, .unset, .unset] [(.int (1 : Int32))])) _
      refine XS.iloadN X66.here hx rfl (hb hby at_13) rfl ?_
      show Steps p.tables e below (T66.setTop (mkF m 14 #[.val (.int p0), .val (.int (4 : Int32)), .val .null, .unset, .unset, .unset, .unset] [(.int (4 : Int32)), (.int (1 : Int32))])) _
      refine XS.ishr X66.here hx rfl (hb hby at_14) rfl ?_
      show Steps p.tables e below (T66.setTop (mkF m 15 #[.val (.int p0), .val (.int (4 : Int32)), .val .null, .unset, .unset, .unset, .unset] [(.int ((1 : Int32) >>> ((4 : Int32) &&& 31)))])) _
      refine XS.iconst X66.here hx rfl (hb hby at_15) ?_
      show Steps p.tables e below (T66.setTop (mkF m 16 #[.val (.int p0), .val (.int (4 : Int32)), .val .null, .unset, .unset, .unset, .unset] [(.int (1 : Int32)), (.int ((1 : Int32) >>> ((4 : Int32) &&& 31)))])) _
      refine XS.iand X66.here hx rfl (hb hby at_16) rfl ?_
      show Steps p.tables e below (T66.setTop (mkF m 17 #[.val (.int p0), .val (.int (4 : Int32)), .val .null, .unset, .unset, .unset, .unset] [(.int (((1 : Int32) >>> ((4 : Int32) &&& 31)) &&& (1 : Int32)))])) _
      refine XS.ifYes X66.here hx rfl (pc0 := 17) (pc' := 24) rfl (hb hby at_17) rfl ((if0 _ _).trans (teq ((by decide) : (((1 : Int32) >>> ((4 : Int32) &&& 31)) &&& (1 : Int32)) = (0 : Int32))).1) (by decide) (by decide) ?_
      show Steps p.tables e below (T66.setTop (mkF m 24 #[.val (.int p0), .val (.int (4 : Int32)), .val .null, .unset, .unset, .unset, .unset] [])) _
      refine XS.iconst X66.here hx rfl (hb hby at_24) ?_
      show Steps p.tables e below (T66.setTop (mkF m 25 #[.val (.int p0), .val (.int (4 : Int32)), .val .null, .unset, .unset, .unset, .unset] [(.int (0 : Int32))])) _
      refine XS.istoreN X66.here hx rfl (hb hby at_25) rfl (l' := #[.val (.int p0), .val (.int (4 : Int32)), .val .null, .val (.int (0 : Int32)), .unset, .unset, .unset]) rfl ?_
      show Steps p.tables e below (T66.setTop (mkF m 26 #[.val (.int p0), .val (.int (4 : Int32)), .val .null, .val (.int (0 : Int32)), .unset, .unset, .unset] [])) _
      refine XS.bipush X66.here hx rfl (hb hby at_26) ?_
      show Steps p.tables e below (T66.setTop (mkF m 28 #[.val (.int p0), .val (.int (4 : Int32)), .val .null, .val (.int (0 : Int32)), .unset, .unset, .unset] [(.int (6 : Int32))])) _
      refine XS.iloadN X66.here hx rfl (hb hby at_28) rfl ?_
      show Steps p.tables e below (T66.setTop (mkF m 29 #[.val (.int p0), .val (.int (4 : Int32)), .val .null, .val (.int (0 : Int32)), .unset, .unset, .unset] [(.int (4 : Int32)), (.int (6 : Int32))])) _
      refine XS.ishr X66.here hx rfl (hb hby at_29) rfl ?_
      show Steps p.tables e below (T66.setTop (mkF m 30 #[.val (.int p0), .val (.int (4 : Int32)), .val .null, .val (.int (0 : Int32)), .unset, .unset, .unset] [(.int ((6 : Int32) >>> ((4 : Int32) &&& 31)))])) _
      refine XS.iconst X66.here hx rfl (hb hby at_30) ?_
      show Steps p.tables e below (T66.setTop (mkF m 31 #[.val (.int p0), .val (.int (4 : Int32)), .val .null, .val (.int (0 : Int32)), .unset, .unset, .unset] [(.int (1 : Int32)), (.int ((6 : Int32) >>> ((4 : Int32) &&& 31)))])) _
      refine XS.iand X66.here hx rfl (hb hby at_31) rfl ?_
      show Steps p.tables e below (T66.setTop (mkF m 32 #[.val (.int p0), .val (.int (4 : Int32)), .val .null, .val (.int (0 : Int32)), .unset, .unset, .unset] [(.int (((6 : Int32) >>> ((4 : Int32) &&& 31)) &&& (1 : Int32)))])) _
      refine XS.ifYes X66.here hx rfl (pc0 := 32) (pc' := 39) rfl (hb hby at_32) rfl ((if0 _ _).trans (teq ((by decide) : (((6 : Int32) >>> ((4 : Int32) &&& 31)) &&& (1 : Int32)) = (0 : Int32))).1) (by decide) (by decide) ?_
      show Steps p.tables e below (T66.setTop (mkF m 39 #[.val (.int p0), .val (.int (4 : Int32)), .val .null, .val (.int (0 : Int32)), .unset, .unset, .unset] [])) _
      refine XS.iconst X66.here hx rfl (hb hby at_39) ?_
      show Steps p.tables e below (T66.setTop (mkF m 40 #[.val (.int p0), .val (.int (4 : Int32)), .val .null, .val (.int (0 : Int32)), .unset, .unset, .unset] [(.int (0 : Int32))])) _
      refine XS.istore X66.here hx rfl (hb hby at_40) rfl (l' := #[.val (.int p0), .val (.int (4 : Int32)), .val .null, .val (.int (0 : Int32)), .val (.int (0 : Int32)), .unset, .unset]) rfl ?_
      show Steps p.tables e below (T66.setTop (mkF m 42 #[.val (.int p0), .val (.int (4 : Int32)), .val .null, .val (.int (0 : Int32)), .val (.int (0 : Int32)), .unset, .unset] [])) _
      refine st68 _ ?_
      show Steps p.tables e below (T68.setTop (mkF m 45 #[.val (.int p0), .val (.int (4 : Int32)), .val .null, .val (.int (0 : Int32)), .val (.int (0 : Int32)), .unset, .unset] [(.ref wOFFER_Overview)])) _
      refine XS.aloadN X68.here hx rfl (hb hby at_45) rfl rfl ?_
      exact kt)
    rw [((by rw [f3, if_pos (rfl : wOFFER_Overview = wOFFER_Overview)]) : (f3 wOFFER_Overview wOFFER wOFFER_Overview wORDER wORDER_StatusType wACTUAL_COSTING wHISTORY) = (0 : Int32))] at hQ69
    obtain ⟨rfl, N69q, e69⟩ := hQ69
    have N69 := Fr.app N66 N69q
    obtain ⟨T71, X71, e71, st71⟩ := getS2 X69 hx hZ hown (host := "") (Or.inl (hw _ (List.mem_of_getElem? (i := 18) rfl))) Via.refl e69 SORDER (g := (mkF m 51 #[.val (.int p0), .val (.int (4 : Int32)), .val .null, .val (.int (0 : Int32)), .val (.int (0 : Int32)), .val (.int (0 : Int32)), .unset] [])) rfl (hb hby at_51)
    obtain ⟨cq72, kq72, q72a, q72b, q72c⟩ := isOf hZ e71 EORDER
    obtain ⟨_, _, ⟨T72, L72, k72, n72⟩, -, X72, ⟨Lc72, hQ72, l72, y72, z72⟩, st72⟩ := X71.virtualBack hx (y := (⟨"com/example/milepost/milepost/status/Overview", "owns", "(Lcom/example/milepost/milepost/status/StatusType;)Z"⟩ : MethodName)) (z := (⟨"com/example/milepost/milepost/status/Overview", "owns", "(Lcom/example/milepost/milepost/status/StatusType;)Z"⟩ : MethodName)) hown (mvT hZ (hw _ (List.mem_of_getElem? (i := 11) rfl))) (mvT hZ (hw _ (List.mem_of_getElem? (i := 12) rfl))) (notFace_of_selects (args := #[]) (mvT hZ (hw _ (List.mem_of_getElem? (i := 14) rfl)))) (mvT hZ (hw _ (List.mem_of_getElem? (i := 14) rfl))) (mvT hZ (hw _ (List.mem_of_getElem? (i := 13) rfl))) (by decide) (backOf (W := 0) (rm3 l Z a0 hw [] wORDER wOFFER wOFFER_Overview wORDER wORDER_StatusType wACTUAL_COSTING wHISTORY h0 n0 Z0 W0 ) hZ (hw _ (List.mem_of_getElem? (i := 15) rfl)) (hw _ (List.mem_of_getElem? (i := 9) rfl)) (by decide) (by decide)) q72a q72c (g := (mkF m 55 #[.val (.int p0), .val (.int (4 : Int32)), .val .null, .val (.int (0 : Int32)), .val (.int (0 : Int32)), .val (.int (0 : Int32)), .unset] [.null, (.ref wORDER)])) rfl (by rw [hml]; rfl) (Steps.refl _) (argsL := [.null]) (rest := []) (lenOf pd_1 rfl) rfl (by show 2 * 0 + _ ≤ _; exact Nat.le_of_eq rfl) (hb hby at_55) (fun _ _ => ⟨rfl, e71, (by decide : 0 + 0 ≤ _), (by decide : 0 + 0 ≤ _)⟩)
    dsimp only [Pt.U, Pt.locs, Pt.cells, Pt.slots] at X72 l72 y72 z72 st72 hQ72
    subst l72 y72 z72
    unfold Q3 at hQ72
    have k73 : ∀ t, Steps p.tables e below (T71.setTop (mkF m 55 #[.val (.int p0), .val (.int (4 : Int32)), .val .null, .val (.int (0 : Int32)), .val (.int (0 : Int32)), .val (.int (0 : Int32)), .unset] [.null, (.ref wORDER)])) t → Steps p.tables e below (s₁.setTop (entryFrame m #[(.int p0)] maxLocals)) t := fun t kt => k70 t (by
      show Steps p.tables e below (T68.setTop (mkF m 46 #[.val (.int p0), .val (.int (4 : Int32)), .val .null, .val (.int (0 : Int32)), .val (.int (0 : Int32)), .unset, .unset] [.null, (.ref wOFFER_Overview)])) _
      refine st69.trans ?_
      show Steps p.tables e below (T69.setTop (mkF m 49 #[.val (.int p0), .val (.int (4 : Int32)), .val .null, .val (.int (0 : Int32)), .val (.int (0 : Int32)), .unset, .unset] [(.int (0 : Int32))])) _
      refine XS.istore X69.here hx rfl (hb hby at_49) rfl (l' := #[.val (.int p0), .val (.int (4 : Int32)), .val .null, .val (.int (0 : Int32)), .val (.int (0 : Int32)), .val (.int (0 : Int32)), .unset]) rfl ?_
      show Steps p.tables e below (T69.setTop (mkF m 51 #[.val (.int p0), .val (.int (4 : Int32)), .val .null, .val (.int (0 : Int32)), .val (.int (0 : Int32)), .val (.int (0 : Int32)), .unset] [])) _
      refine st71 _ ?_
      show Steps p.tables e below (T71.setTop (mkF m 54 #[.val (.int p0), .val (.int (4 : Int32)), .val .null, .val (.int (0 : Int32)), .val (.int (0 : Int32)), .val (.int (0 : Int32)), .unset] [(.ref wORDER)])) _
      refine XS.aloadN X71.here hx rfl (hb hby at_54) rfl rfl ?_
      exact kt)
    rw [((by rw [f3, if_neg ((Fld.ne FORDER_ordinal FOFFER_Overview_ordinal (by decide)) : ¬ (wORDER = wOFFER_Overview))]) : (f3 wORDER wOFFER wOFFER_Overview wORDER wORDER_StatusType wACTUAL_COSTING wHISTORY) = (0 : Int32))] at hQ72
    obtain ⟨rfl, N72q, e72⟩ := hQ72
    have N72 := Fr.app N69 N72q
    obtain ⟨fs, hr, hrun, hended, hW, hsame⟩ := X72.leave (v := some (.int (1 : Int32))) (fun h => by rw [Bd.returns] at h; cases h)
    refine ⟨_, _, k73 _ ?_, hrun, hended, _, _, rfl, ?_, ⟨_, rfl⟩, hW, hsame.mono (by decide) (by decide)⟩
    · show Steps p.tables e below (T71.setTop (mkF m 55 #[.val (.int p0), .val (.int (4 : Int32)), .val .null, .val (.int (0 : Int32)), .val (.int (0 : Int32)), .val (.int (0 : Int32)), .unset] [.null, (.ref wORDER)])) _
      refine st72.trans ?_
      show Steps p.tables e below (T72.setTop (mkF m 58 #[.val (.int p0), .val (.int (4 : Int32)), .val .null, .val (.int (0 : Int32)), .val (.int (0 : Int32)), .val (.int (0 : Int32)), .unset] [(.int (0 : Int32))])) _
      refine XS.istore X72.here hx rfl (hb hby at_58) rfl (l' := #[.val (.int p0), .val (.int (4 : Int32)), .val .null, .val (.int (0 : Int32)), .val (.int (0 : Int32)), .val (.int (0 : Int32)), .val (.int (0 : Int32))]) rfl ?_
      show Steps p.tables e below (T72.setTop (mkF m 60 #[.val (.int p0), .val (.int (4 : Int32)), .val .null, .val (.int (0 : Int32)), .val (.int (0 : Int32)), .val (.int (0 : Int32)), .val (.int (0 : Int32))] [])) _
      refine XS.iload X72.here hx rfl (hb hby at_60) rfl ?_
      show Steps p.tables e below (T72.setTop (mkF m 62 #[.val (.int p0), .val (.int (4 : Int32)), .val .null, .val (.int (0 : Int32)), .val (.int (0 : Int32)), .val (.int (0 : Int32)), .val (.int (0 : Int32))] [(.int (0 : Int32))])) _
      refine XS.iloadN X72.here hx rfl (hb hby at_62) rfl ?_
      show Steps p.tables e below (T72.setTop (mkF m 63 #[.val (.int p0), .val (.int (4 : Int32)), .val .null, .val (.int (0 : Int32)), .val (.int (0 : Int32)), .val (.int (0 : Int32)), .val (.int (0 : Int32))] [(.int (0 : Int32)), (.int (0 : Int32))])) _
      refine XS.icmpNo X72.here hx rfl (hb hby at_63) rfl (teq (rfl : (0 : Int32) = (0 : Int32))).2 ?_
      show Steps p.tables e below (T72.setTop (mkF m 66 #[.val (.int p0), .val (.int (4 : Int32)), .val .null, .val (.int (0 : Int32)), .val (.int (0 : Int32)), .val (.int (0 : Int32)), .val (.int (0 : Int32))] [])) _
      refine XS.iload X72.here hx rfl (hb hby at_66) rfl ?_
      show Steps p.tables e below (T72.setTop (mkF m 68 #[.val (.int p0), .val (.int (4 : Int32)), .val .null, .val (.int (0 : Int32)), .val (.int (0 : Int32)), .val (.int (0 : Int32)), .val (.int (0 : Int32))] [(.int (0 : Int32))])) _
      refine XS.iload X72.here hx rfl (hb hby at_68) rfl ?_
      show Steps p.tables e below (T72.setTop (mkF m 70 #[.val (.int p0), .val (.int (4 : Int32)), .val .null, .val (.int (0 : Int32)), .val (.int (0 : Int32)), .val (.int (0 : Int32)), .val (.int (0 : Int32))] [(.int (0 : Int32)), (.int (0 : Int32))])) _
      refine XS.icmpNo X72.here hx rfl (hb hby at_70) rfl (teq (rfl : (0 : Int32) = (0 : Int32))).2 ?_
      show Steps p.tables e below (T72.setTop (mkF m 73 #[.val (.int p0), .val (.int (4 : Int32)), .val .null, .val (.int (0 : Int32)), .val (.int (0 : Int32)), .val (.int (0 : Int32)), .val (.int (0 : Int32))] [])) _
      refine XS.iconst X72.here hx rfl (hb hby at_73) ?_
      show Steps p.tables e below (T72.setTop (mkF m 74 #[.val (.int p0), .val (.int (4 : Int32)), .val .null, .val (.int (0 : Int32)), .val (.int (0 : Int32)), .val (.int (0 : Int32)), .val (.int (0 : Int32))] [(.int (1 : Int32))])) _
      refine XS.goto X72.here hx rfl (pc0 := 74) (pc' := 78) rfl (hb hby at_74) (by decide) (by decide) ?_
      show Steps p.tables e below (T72.setTop (mkF m 78 #[.val (.int p0), .val (.int (4 : Int32)), .val .null, .val (.int (0 : Int32)), .val (.int (0 : Int32)), .val (.int (0 : Int32)), .val (.int (0 : Int32))] [(.int (1 : Int32))])) _
      exact retN X72 hx (t := .boolean) Bd.returns (by simp) (hb hby at_78) hr
    · show Q0 Z p0 wOFFER wOFFER_Overview wORDER wORDER_StatusType wACTUAL_COSTING wHISTORY h0 n0 _ T72.heap _
      rw [e72]
      exact ⟨rfl, N72⟩
set_option maxRecDepth 65536 in
set_option maxHeartbeats 40000000 in
theorem comes_1 {Post : Tables → Env → Array Value → State → Outcome → State → Prop} (hpost : ∀ tb e args s v u, (limb_1_1.after args s (.returned v) u = true ∧ limb_1_2.after args s (.returned v) u = true ∧ True) → FrameEnd s (.returned v) u (Jvm.fieldLocs frame_1_writes args s ++ Jvm.arrayLocs frame_1_arrays args s ++ Jvm.staticLocs frame_1_statics s) 0 0 → Post tb e args s (.returned v) u) :
    ArmFor flags0 classFile x code maxLocals ret World_1 tables_1 room_1 Calls_1 rest_1 Pre_1 Post := by
  intro l hfl _ _ p e ha hc hk s m args below hf hA hF happ hP
  obtain ⟨hcalls, hrest, hpre⟩ := hP
  obtain ⟨-, -, -, hnamed, -, -, -, hat⟩ := (Spec.applies_iff hf).mp happ
  obtain ⟨hg, hn⟩ := and_e (Cond.before_iff.mp (show (Jvm.Cond.and given_1 narrow_1).before args s = true from hpre))
  obtain ⟨gc, ga0⟩ := and_e hg
  obtain ⟨w0, rfl⟩ : ∃ w0 : Value, args = #[w0] := by
    have hs : args.size = 1 := by simpa [Cond.value, given_1] using gc
    obtain ⟨L⟩ := args
    match L, hs with
    | [w0], _ => exact ⟨w0, rfl⟩
  have hw := fun d (hd : d ∈ tables_1) => atoms_spec (ws := Jvm.Cond.code x code maxLocals ret :: tables_1) hat d (List.mem_cons_of_mem _ hd)
  have hfit : Fit s := fun {y c} hc i hi => by
    obtain ⟨ha, rfl⟩ := Array.getElem?_eq_some_iff.mp hc
    have q := List.all_eq_true.mp ((Array.all_eq_true_iff_forall_mem.mp hF) _ (Array.getElem_mem ha)) i (List.mem_range.mpr hi)
    simpa [Array.getElem?_eq_getElem hi] using q
  obtain ⟨i0, ei0⟩ := is_v ga0
  obtain rfl : w0 = (.int i0) := Option.some.inj ei0
  obtain ⟨nr0, hn0⟩ := and_e hn
  obtain ⟨nr1, hn1⟩ := and_e hn0
  obtain ⟨nr2, hn2⟩ := and_e hn1
  obtain ⟨nr3, hn3⟩ := and_e hn2
  obtain ⟨nr4, hn4⟩ := and_e hn3
  obtain ⟨nr5, hn5⟩ := and_e hn4
  obtain ⟨nr6, hn6⟩ := and_e hn5
  obtain ⟨nr7, hn7⟩ := and_e hn6
  obtain ⟨nr8, hn8⟩ := and_e hn7
  obtain ⟨nr9, hn9⟩ := and_e hn8
  obtain ⟨nr10, nr11⟩ := and_e hn9
  obtain ⟨wOFFER, evwOFFER⟩ := exa_v nr0
  have SOFFER : Sta s s.heap "com/example/milepost/milepost/status/StatusType" "OFFER" "Lcom/example/milepost/milepost/status/StatusType;" (.ref wOFFER) := Sta.start evwOFFER (Or.inr ⟨(hw _ (List.mem_of_getElem? (i := 6) rfl)), (hw _ (List.mem_of_getElem? (i := 7) rfl))⟩)
  obtain ⟨wOFFER_Overview, evwOFFER_Overview⟩ := exa_v nr1
  have SOFFER_Overview : Sta s s.heap "com/example/milepost/milepost/status/Overview" "OFFER" "Lcom/example/milepost/milepost/status/Overview;" (.ref wOFFER_Overview) := Sta.start evwOFFER_Overview (Or.inr ⟨(hw _ (List.mem_of_getElem? (i := 9) rfl)), (hw _ (List.mem_of_getElem? (i := 10) rfl))⟩)
  obtain ⟨wORDER, evwORDER⟩ := exa_v nr2
  have SORDER : Sta s s.heap "com/example/milepost/milepost/status/Overview" "ORDER" "Lcom/example/milepost/milepost/status/Overview;" (.ref wORDER) := Sta.start evwORDER (Or.inr ⟨(hw _ (List.mem_of_getElem? (i := 9) rfl)), (hw _ (List.mem_of_getElem? (i := 19) rfl))⟩)
  obtain ⟨wORDER_StatusType, evwORDER_StatusType⟩ := exa_v nr5
  have SORDER_StatusType : Sta s s.heap "com/example/milepost/milepost/status/StatusType" "ORDER" "Lcom/example/milepost/milepost/status/StatusType;" (.ref wORDER_StatusType) := Sta.start evwORDER_StatusType (Or.inr ⟨(hw _ (List.mem_of_getElem? (i := 6) rfl)), (hw _ (List.mem_of_getElem? (i := 21) rfl))⟩)
  obtain ⟨wACTUAL_COSTING, evwACTUAL_COSTING⟩ := exa_v nr8
  have SACTUAL_COSTING : Sta s s.heap "com/example/milepost/milepost/status/StatusType" "ACTUAL_COSTING" "Lcom/example/milepost/milepost/status/StatusType;" (.ref wACTUAL_COSTING) := Sta.start evwACTUAL_COSTING (Or.inr ⟨(hw _ (List.mem_of_getElem? (i := 6) rfl)), (hw _ (List.mem_of_getElem? (i := 23) rfl))⟩)
  obtain ⟨wHISTORY, evwHISTORY⟩ := exa_v nr10
  have SHISTORY : Sta s s.heap "com/example/milepost/milepost/status/StatusType" "HISTORY" "Lcom/example/milepost/milepost/status/StatusType;" (.ref wHISTORY) := Sta.start evwHISTORY (Or.inr ⟨(hw _ (List.mem_of_getElem? (i := 6) rfl)), (hw _ (List.mem_of_getElem? (i := 25) rfl))⟩)
  have EOFFER : Exa s s.heap wOFFER "com/example/milepost/milepost/status/StatusType" := Exa.start evwOFFER nr0
  have EOFFER_Overview : Exa s s.heap wOFFER_Overview "com/example/milepost/milepost/status/Overview" := Exa.start evwOFFER_Overview nr1
  have EORDER : Exa s s.heap wORDER "com/example/milepost/milepost/status/Overview" := Exa.start evwORDER nr2
  have FORDER_ordinal : Fld s s.heap wORDER "java/lang/Enum" "ordinal" "I" (.int (1 : Int32)) := own_fldI evwORDER nr3
  have FOFFER_Overview_ordinal : Fld s s.heap wOFFER_Overview "java/lang/Enum" "ordinal" "I" (.int (0 : Int32)) := own_fldI evwOFFER_Overview nr4
  have EORDER_StatusType : Exa s s.heap wORDER_StatusType "com/example/milepost/milepost/status/StatusType" := Exa.start evwORDER_StatusType nr5
  have FOFFER_ordinal : Fld s s.heap wOFFER "java/lang/Enum" "ordinal" "I" (.int (0 : Int32)) := own_fldI evwOFFER nr6
  have FORDER_StatusType_ordinal : Fld s s.heap wORDER_StatusType "java/lang/Enum" "ordinal" "I" (.int (1 : Int32)) := own_fldI evwORDER_StatusType nr7
  have EACTUAL_COSTING : Exa s s.heap wACTUAL_COSTING "com/example/milepost/milepost/status/StatusType" := Exa.start evwACTUAL_COSTING nr8
  have FACTUAL_COSTING_ordinal : Fld s s.heap wACTUAL_COSTING "java/lang/Enum" "ordinal" "I" (.int (2 : Int32)) := own_fldI evwACTUAL_COSTING nr9
  have EHISTORY : Exa s s.heap wHISTORY "com/example/milepost/milepost/status/StatusType" := Exa.start evwHISTORY nr10
  have FHISTORY_ordinal : Fld s s.heap wHISTORY "java/lang/Enum" "ordinal" "I" (.int (3 : Int32)) := own_fldI evwHISTORY nr11
  obtain ⟨n, o, h1, h2, h3, _, L, rfl, ⟨rfl, N⟩, hq⟩ := rm0 l s _ hw tables_1 i0 wOFFER wOFFER_Overview wORDER wORDER_StatusType wACTUAL_COSTING wHISTORY s.heap s.heap.size (Nat.le_refl _) ⟨SOFFER, EOFFER, SOFFER_Overview, EOFFER_Overview, SORDER, EORDER, FORDER_ordinal, FOFFER_Overview_ordinal, SORDER_StatusType, EORDER_StatusType, FOFFER_ordinal, FORDER_StatusType_ordinal, SACTUAL_COSTING, EACTUAL_COSTING, FACTUAL_COSTING_ordinal, SHISTORY, EHISTORY, FHISTORY_ordinal, trivial⟩  p e ha hc hk s m _ below hf ((Spec.applies_iff_loose hf).mp happ).1 ⟨rfl, State.Warmed39.refl s, rfl⟩ trivial
  refine ⟨n, _, h1, h2, h3, hpost _ _ _ _ _ _ ⟨Cond.after_iff.mpr rfl, Cond.after_iff.mpr (eq_i res_at (Term.int_eval (1)) rfl), trivial⟩ ⟨hq.1, hq.2.1, (hq.2.2.sift fun y hy => Or.inr (N y hy)).mono (by decide) (by decide)⟩⟩
theorem main_1_1 : Claimed_1_1 := comes_1 fun _ _ _ _ _ _ h hF => ⟨h.1, hF⟩
theorem main_1_2 : Claimed_1_2 := comes_1 fun _ _ _ _ _ _ h hF => ⟨h.2.1, hF⟩
end Jvm.Pilot.@@N@@
namespace Jvm.Pilot.@@N@@
open Jvm Jvm.ClassFile Sem Op Lib Jvm.Free Jvm.Stand Jvm.Pilot.@@N@@.Jvm.D
/-! MADE BY PROGRAM (witnessworld.py) out of the Statement's table words and the real class files: 14 classes; the members and pool entries that the words name. The judged class is class 1, her method 1. -/
namespace start1
open Jvm.ClassFile
def u (s : String) : CpInfo := .utf8 (stringToUtf16 s)
/-- a pool by its gaps: so many unusable entries, then the entry; so many at the end -/
def gap : Nat → List CpInfo → List CpInfo
  | 0, r => r
  | n + 1, r => .unusable :: gap n r
def poolList (es : List (Nat × CpInfo)) (last : Nat) : List CpInfo := es.foldr (fun e r => gap e.1 (e.2 :: r)) (gap last [])
def pool (es : List (Nat × CpInfo)) (last : Nat) : Array CpInfo := ⟨poolList es last⟩
def fileOf (pool : Array CpInfo) (this : Nat) (attrs : Array Attribute := #[]) (ms : Array MethodInfo := #[]) (fl : Nat := 33) (sup : Nat := 0) (ifs : Array Nat := #[]) (fds : Array FieldInfo := #[]) : ClassFile where
  minorVersion := 0
  majorVersion := 65
  constantPool := pool
  accessFlags := fl
  thisClass := this
  superClass := sup
  interfaces := ifs
  fields := fds
  methods := ms
  attributes := attrs
def plain (name : String) (sup : Option ClassId) : Class where
  name := name
  kind := .ordinary
  loader := none
  accessFlags := 33
  super := sup
  interfaces := #[]
  cf := none
  fields := #[]
  methods := #[]
  instanceTypes := #[]
  staticTypes := #[]
  resolved := #[]
  callSites := []
  init := .initialized
  statics := none
  mirror := none

def pool0 : Array CpInfo := pool [(5, u "<init>"), (0, u "()V"), (1, .class_ 10), (1, u "java/lang/Object")] 113

def k0m0 : Method := { name := "<init>", desc := "()V", sig := { parameters := [], returnType := none }, accessFlags := 1, code := none }
/-- java/lang/Object -/
def k0 : Class := { plain "java/lang/Object" none with
  accessFlags := 33
  interfaces := #[]
  cf := some (fileOf pool0 8 #[] #[{ accessFlags := 1, nameIndex := 5, descriptorIndex := 6, attributes := #[] }] 33 0 #[] #[])
  fields := #[]
  methods := #[k0m0]
  instanceTypes := #[]
  staticTypes := #[]
  resolved := Array.replicate 124 none
  statics := none }

def pool1 : Array CpInfo := pool [(2, .class_ 4), (1, u "java/lang/Object"), (0, u "<init>"), (0, u "()V"), (0, .integer 2147483647), (0, .methodref 9 10), (0, .class_ 11), (0, .nameAndType 12 13), (0, u "com/example/milepost/milepost/status/OverviewOwnsPinLaw"), (0, u "typeOf"), (0, u "(I)Lcom/example/milepost/milepost/status/StatusType;"), (0, .fieldref 15 16), (0, .class_ 17), (0, .nameAndType 18 19), (0, u "com/example/milepost/milepost/status/Overview"), (0, u "OFFER"), (0, u "Lcom/example/milepost/milepost/status/Overview;"), (0, .methodref 15 21), (0, .nameAndType 22 23), (0, u "owns"), (0, u "(Lcom/example/milepost/milepost/status/StatusType;)Z"), (0, .fieldref 15 25), (0, .nameAndType 26 19), (0, u "ORDER"), (0, .fieldref 28 29), (0, .class_ 30), (0, .nameAndType 18 31), (0, u "com/example/milepost/milepost/status/StatusType"), (0, u "Lcom/example/milepost/milepost/status/StatusType;"), (0, .fieldref 28 33), (0, .nameAndType 26 31), (0, .fieldref 28 35), (0, .nameAndType 36 31), (0, u "ACTUAL_COSTING"), (0, .fieldref 28 38), (0, .nameAndType 39 31), (0, u "HISTORY"), (2, u "law"), (0, u "(I)Z")] 3

def k1m0 : Method := { name := "<init>", desc := "()V", sig := { parameters := [], returnType := none }, accessFlags := 1, code := none }
def k1c1 : Code := { maxStack := 2, maxLocals := 7, code := code, exceptionTable := #[], attributes := #[] }
def k1m1 : Method := { name := "law", desc := "(I)Z", sig := { parameters := [.int], returnType := some .boolean }, accessFlags := 9, code := some k1c1 }
def k1c2 : Code := { maxStack := 2, maxLocals := 1, code := method_3_code, exceptionTable := #[], attributes := #[] }
def k1m2 : Method := { name := "typeOf", desc := "(I)Lcom/example/milepost/milepost/status/StatusType;", sig := { parameters := [.int], returnType := some (.object "com/example/milepost/milepost/status/StatusType") }, accessFlags := 10, code := some k1c2 }
/-- com/example/milepost/milepost/status/OverviewOwnsPinLaw -/
def k1 : Class := { plain "com/example/milepost/milepost/status/OverviewOwnsPinLaw" (some 0) with
  accessFlags := 49
  interfaces := #[]
  cf := some (fileOf pool1 9 #[] #[{ accessFlags := 1, nameIndex := 5, descriptorIndex := 6, attributes := #[] }, { accessFlags := 9, nameIndex := 42, descriptorIndex := 43, attributes := #[] }, { accessFlags := 10, nameIndex := 12, descriptorIndex := 13, attributes := #[] }] 49 2 #[] #[])
  fields := #[]
  methods := #[k1m0, k1m1, k1m2]
  instanceTypes := #[]
  staticTypes := #[]
  resolved := Array.replicate 47 none
  statics := none }

def pool2 : Array CpInfo := pool [(1, .class_ 2), (0, u "java/lang/constant/Constable"), (0, .class_ 4), (0, u "java/lang/Object")] 6

/-- java/lang/constant/Constable -/
def k2 : Class := { plain "java/lang/constant/Constable" (some 0) with
  accessFlags := 1537
  interfaces := #[]
  cf := some (fileOf pool2 1 #[] #[] 1537 3 #[] #[])
  fields := #[]
  methods := #[]
  instanceTypes := #[]
  staticTypes := #[]
  resolved := Array.replicate 11 none
  statics := none }

def pool3 : Array CpInfo := pool [(1, .class_ 2), (0, u "java/lang/Comparable"), (0, .class_ 4), (0, u "java/lang/Object")] 7

/-- java/lang/Comparable -/
def k3 : Class := { plain "java/lang/Comparable" (some 0) with
  accessFlags := 1537
  interfaces := #[]
  cf := some (fileOf pool3 1 #[] #[] 1537 3 #[] #[])
  fields := #[]
  methods := #[]
  instanceTypes := #[]
  staticTypes := #[]
  resolved := Array.replicate 12 none
  statics := none }

def pool4 : Array CpInfo := pool [(1, .class_ 2), (0, u "java/io/Serializable"), (0, .class_ 4), (0, u "java/lang/Object")] 2

/-- java/io/Serializable -/
def k4 : Class := { plain "java/io/Serializable" (some 0) with
  accessFlags := 1537
  interfaces := #[]
  cf := some (fileOf pool4 1 #[] #[] 1537 3 #[] #[])
  fields := #[]
  methods := #[]
  instanceTypes := #[]
  staticTypes := #[]
  resolved := Array.replicate 7 none
  statics := none }

def pool5 : Array CpInfo := pool [(2, .class_ 4), (1, u "java/lang/Enum"), (0, u "name"), (0, u "Ljava/lang/String;"), (2, u "ordinal"), (0, u "I"), (1, .class_ 14), (1, u "java/lang/Object"), (4, u "hash"), (86, .class_ 108), (1, u "java/lang/Enum$EnumDesc"), (2, .class_ 112), (0, u "java/lang/constant/Constable"), (0, .class_ 114), (0, u "java/lang/Comparable"), (0, .class_ 116), (0, u "java/io/Serializable")] 87

/-- java/lang/Enum -/
def k5 : Class := { plain "java/lang/Enum" (some 0) with
  accessFlags := 1057
  interfaces := #[2, 3, 4]
  cf := some (fileOf pool5 2 #[.nestMembers #[106]] #[] 1057 12 #[111, 113, 115] #[{ accessFlags := 18, nameIndex := 5, descriptorIndex := 6, attributes := #[] }, { accessFlags := 18, nameIndex := 9, descriptorIndex := 10, attributes := #[] }, { accessFlags := 2, nameIndex := 19, descriptorIndex := 10, attributes := #[] }])
  fields := #[{ name := "name", type := (.object "java/lang/String"), accessFlags := 18, slot := 0, constantValue := 0 }, { name := "ordinal", type := .int, accessFlags := 18, slot := 1, constantValue := 0 }, { name := "hash", type := .int, accessFlags := 2, slot := 2, constantValue := 0 }]
  methods := #[]
  instanceTypes := #[(.object "java/lang/String"), .int, .int]
  staticTypes := #[]
  resolved := Array.replicate 204 none
  statics := none }

def pool6 : Array CpInfo := pool [(2, .class_ 4), (1, u "com/example/milepost/milepost/status/Identified"), (18, .class_ 24), (0, u "java/lang/Object")] 11

/-- com/example/milepost/milepost/status/Identified -/
def k6 : Class := { plain "com/example/milepost/milepost/status/Identified" (some 0) with
  accessFlags := 1537
  interfaces := #[]
  cf := some (fileOf pool6 2 #[] #[] 1537 23 #[] #[])
  fields := #[]
  methods := #[]
  instanceTypes := #[]
  staticTypes := #[]
  resolved := Array.replicate 36 none
  statics := none }

def pool7 : Array CpInfo := pool [(1, .class_ 2), (0, u "com/example/milepost/milepost/status/StatusType"), (2, u "OFFER"), (0, u "Lcom/example/milepost/milepost/status/StatusType;"), (2, u "ORDER"), (2, u "ACTUAL_COSTING"), (2, u "HISTORY"), (2, u "$VALUES"), (0, u "[Lcom/example/milepost/milepost/status/StatusType;"), (6, .class_ 28), (1, u "java/lang/Enum"), (8, u "id"), (0, u "Ljava/lang/String;"), (5, .class_ 46), (1, u "com/example/milepost/milepost/status/Identified")] 34

/-- com/example/milepost/milepost/status/StatusType -/
def k7 : Class := { plain "com/example/milepost/milepost/status/StatusType" (some 5) with
  accessFlags := 16433
  interfaces := #[6]
  cf := some (fileOf pool7 1 #[] #[] 16433 26 #[44] #[{ accessFlags := 16409, nameIndex := 5, descriptorIndex := 6, attributes := #[] }, { accessFlags := 16409, nameIndex := 9, descriptorIndex := 6, attributes := #[] }, { accessFlags := 16409, nameIndex := 12, descriptorIndex := 6, attributes := #[] }, { accessFlags := 16409, nameIndex := 15, descriptorIndex := 6, attributes := #[] }, { accessFlags := 18, nameIndex := 37, descriptorIndex := 38, attributes := #[] }, { accessFlags := 4122, nameIndex := 18, descriptorIndex := 19, attributes := #[] }])
  fields := #[{ name := "OFFER", type := (.object "com/example/milepost/milepost/status/StatusType"), accessFlags := 16409, slot := 0, constantValue := 0 }, { name := "ORDER", type := (.object "com/example/milepost/milepost/status/StatusType"), accessFlags := 16409, slot := 1, constantValue := 0 }, { name := "ACTUAL_COSTING", type := (.object "com/example/milepost/milepost/status/StatusType"), accessFlags := 16409, slot := 2, constantValue := 0 }, { name := "HISTORY", type := (.object "com/example/milepost/milepost/status/StatusType"), accessFlags := 16409, slot := 3, constantValue := 0 }, { name := "id", type := (.object "java/lang/String"), accessFlags := 18, slot := 3, constantValue := 0 }, { name := "$VALUES", type := (.array (.object "com/example/milepost/milepost/status/StatusType")), accessFlags := 4122, slot := 4, constantValue := 0 }]
  methods := #[]
  instanceTypes := #[(.object "java/lang/String"), .int, .int, (.object "java/lang/String")]
  staticTypes := #[(.object "com/example/milepost/milepost/status/StatusType"), (.object "com/example/milepost/milepost/status/StatusType"), (.object "com/example/milepost/milepost/status/StatusType"), (.object "com/example/milepost/milepost/status/StatusType"), (.array (.object "com/example/milepost/milepost/status/StatusType"))]
  resolved := Array.replicate 81 none
  statics := some 0 }

def pool8 : Array CpInfo := pool [(1, .class_ 2), (0, u "com/example/milepost/milepost/status/Overview"), (0, .fieldref 1 4), (0, .nameAndType 5 6), (0, u "OFFER"), (0, u "Lcom/example/milepost/milepost/status/Overview;"), (2, u "ORDER"), (2, u "$VALUES"), (0, u "[Lcom/example/milepost/milepost/status/Overview;"), (6, .class_ 22), (1, u "java/lang/Enum"), (8, u "id"), (0, u "Ljava/lang/String;"), (2, u "label"), (5, .class_ 43), (1, u "com/example/milepost/milepost/status/Identified"), (11, .fieldref 56 57), (0, .class_ 58), (0, .nameAndType 5 59), (0, u "com/example/milepost/milepost/status/StatusType"), (0, u "Lcom/example/milepost/milepost/status/StatusType;"), (0, .fieldref 56 61), (0, .nameAndType 9 59), (0, .fieldref 56 63), (0, .nameAndType 64 59), (0, u "ACTUAL_COSTING"), (30, u "owns"), (0, u "(Lcom/example/milepost/milepost/status/StatusType;)Z")] 5

def k8c0 : Code := { maxStack := 2, maxLocals := 2, code := prog_84_method_8_code, exceptionTable := #[], attributes := #[] }
def k8m0 : Method := { name := "owns", desc := "(Lcom/example/milepost/milepost/status/StatusType;)Z", sig := { parameters := [(.object "com/example/milepost/milepost/status/StatusType")], returnType := some .boolean }, accessFlags := 1, code := some k8c0 }
/-- com/example/milepost/milepost/status/Overview -/
def k8 : Class := { plain "com/example/milepost/milepost/status/Overview" (some 5) with
  accessFlags := 16433
  interfaces := #[6]
  cf := some (fileOf pool8 1 #[] #[{ accessFlags := 1, nameIndex := 95, descriptorIndex := 96, attributes := #[] }] 16433 20 #[41] #[{ accessFlags := 16409, nameIndex := 5, descriptorIndex := 6, attributes := #[] }, { accessFlags := 16409, nameIndex := 9, descriptorIndex := 6, attributes := #[] }, { accessFlags := 18, nameIndex := 31, descriptorIndex := 32, attributes := #[] }, { accessFlags := 18, nameIndex := 35, descriptorIndex := 32, attributes := #[] }, { accessFlags := 4122, nameIndex := 12, descriptorIndex := 13, attributes := #[] }])
  fields := #[{ name := "OFFER", type := (.object "com/example/milepost/milepost/status/Overview"), accessFlags := 16409, slot := 0, constantValue := 0 }, { name := "ORDER", type := (.object "com/example/milepost/milepost/status/Overview"), accessFlags := 16409, slot := 1, constantValue := 0 }, { name := "id", type := (.object "java/lang/String"), accessFlags := 18, slot := 3, constantValue := 0 }, { name := "label", type := (.object "java/lang/String"), accessFlags := 18, slot := 4, constantValue := 0 }, { name := "$VALUES", type := (.array (.object "com/example/milepost/milepost/status/Overview")), accessFlags := 4122, slot := 2, constantValue := 0 }]
  methods := #[k8m0]
  instanceTypes := #[(.object "java/lang/String"), .int, .int, (.object "java/lang/String"), (.object "java/lang/String")]
  staticTypes := #[(.object "com/example/milepost/milepost/status/Overview"), (.object "com/example/milepost/milepost/status/Overview"), (.array (.object "com/example/milepost/milepost/status/Overview"))]
  resolved := Array.replicate 102 none
  statics := some 1 }

def pool9 : Array CpInfo := pool [(1, u "java/lang/Cloneable"), (0, .class_ 1), (0, u "java/lang/Object"), (0, .class_ 3)] 3

/-- java/lang/Cloneable -/
def k9 : Class := { plain "java/lang/Cloneable" (some 0) with
  accessFlags := 1537
  interfaces := #[]
  cf := some (fileOf pool9 2 #[] #[] 1537 4 #[] #[])
  fields := #[]
  methods := #[]
  instanceTypes := #[]
  staticTypes := #[]
  resolved := Array.replicate 8 none
  statics := none }

/-- the primitive byte -/
def k10 : Class := { plain "byte" none with kind := .primitive 'B', accessFlags := 0x411 }
/-- [B -/
def k11 : Class := { plain "[B" (some 0) with kind := .array 10 .byte, interfaces := #[9, 4], accessFlags := 1041 }

/-- the primitive int -/
def k12 : Class := { plain "int" none with kind := .primitive 'I', accessFlags := 0x411 }
/-- [I -/
def k13 : Class := { plain "[I" (some 0) with kind := .array 12 .int, interfaces := #[9, 4], accessFlags := 1041 }

def heap : Heap := #[{ cls := 7, slots := #[.ref 2, .ref 5, .ref 6, .ref 7, .null], vm := .statics 7 },
  { cls := 8, slots := #[.ref 3, .ref 4, .null], vm := .statics 8 },
  { cls := 7, slots := #[.null, .int 0, .int 0, .null], vm := .none },
  { cls := 8, slots := #[.null, .int 0, .int 0, .null, .null], vm := .none },
  { cls := 8, slots := #[.null, .int 1, .int 0, .null, .null], vm := .none },
  { cls := 7, slots := #[.null, .int 1, .int 0, .null], vm := .none },
  { cls := 7, slots := #[.null, .int 2, .int 0, .null], vm := .none },
  { cls := 7, slots := #[.null, .int 3, .int 0, .null], vm := .none }]
def classes : Array Class := #[k0, k1, k2, k3, k4, k5, k6, k7, k8, k9, k10, k11, k12, k13]
def interned : List (Array UInt16 × Addr) := []
def slotsUsed : Nat := 34
def theMethod : MethodId := ⟨1, 1⟩
def args0 : Array Value := #[.int 5]
def aboutOver (below : List Frame) : State where
  vm := { classes := classes, interned := interned.toArray }
  heap := heap
  slotsUsed := slotsUsed
  threads := #[{ frames := .invoking theMethod args0 :: below }]
def below0 : List Frame := [.native { method := ⟨0, 0⟩, args := #[] }]
def about1 : State := aboutOver below0
def p0 : Program := .bare "" "" ""
def e0 : Env := launch0.env 0 0 0
theorem w_frames : about1.frames = Frame.invoking theMethod args0 :: below0 := rfl
set_option maxRecDepth 65536 in
theorem w_args : argsFit about1.vm theMethod args0 = true := by decide +kernel
set_option maxRecDepth 65536 in
theorem w_heap : heapFits about1 = true := by decide +kernel
set_option maxRecDepth 65536 in
theorem w_runnable : about1.curStatus? = some .runnable := by decide +kernel
set_option maxRecDepth 65536 in
theorem w_alone : about1.alone = true := by decide +kernel
set_option maxRecDepth 65536 in
theorem w_named : about1.methodNamed? x = some theMethod := by decide +kernel
set_option maxRecDepth 65536 in
theorem w_hears : about1.hears theMethod below0 = true := by decide +kernel
set_option maxRecDepth 65536 in
theorem w_ripe : about1.ripe theMethod args0 below0 = true := by decide +kernel
theorem w_running : about1.status = .running := rfl
set_option maxRecDepth 65536 in
theorem w_room : about1.hasRoom e0.platform room_1 = true :=
  launch0.hasRoom_least _ room_1 (by decide +kernel) (by decide +kernel) (by decide +kernel) (by decide +kernel) (by decide +kernel) (by decide +kernel)
theorem allAtoms_all (ts : List Jvm.Cond) (a : Array Jvm.Value) (st : Jvm.State) : (allAtoms ts).before a st = ts.all (fun c => c.before a st) := by
  induction ts with
  | nil => rfl
  | cons c t ih =>
    show (Jvm.Cond.and c (allAtoms t)).before a st = _
    rw [Jvm.Cond.before_and, ih, List.all_cons]
def words1 : List Jvm.Cond := Jvm.Cond.code x code maxLocals ret :: tables_1
/-- a 'code' word, met by the world's own term for the bytes: nothing is compared byte by byte -/
theorem code_word {y : MethodName} {bytes : ByteArray} {mx : Nat} {rt : Option FieldType} {a : Array Value} {s : State} {m : MethodId} {meth : Method} {c : Code} (h1 : s.methodNamed? y = some m) (h2 : s.vm.method? m = some meth) (h3 : meth.code = some c) (h4 : c.code = bytes)
    (h5 : (c.maxLocals == mx && c.exceptionTable.isEmpty && decide (c.maxStack ≤ mostOperands) && decide (meth.sig.returnType = rt) && !meth.locks && decide (parseMethodDescriptor y.desc = some meth.sig)) = true) : (Jvm.Cond.code y bytes mx rt).before a s = true := by
  simp only [Bool.and_eq_true, beq_iff_eq, Bool.not_eq_true', decide_eq_true_eq] at h5
  obtain ⟨⟨⟨⟨⟨g1, g2⟩, g3⟩, g4⟩, g5⟩, g6⟩ := h5
  simp [Cond.before, Cond.holds, Cond.value, h1, h2, h3, h4, g1, g2, g3, g4, g5, g6]
def isCode : Jvm.Cond → Bool
  | .code _ _ _ _ => true
  | _ => false
theorem all_split {L : List Jvm.Cond} {P : Jvm.Cond → Bool} (h1 : L.all (fun c => isCode c || P c) = true) (h2 : ∀ c ∈ L.filter isCode, P c = true) : L.all P = true := by
  refine List.all_eq_true.mpr fun c hc => ?_
  have h := List.all_eq_true.mp h1 c hc
  rcases Bool.eq_false_or_eq_true (isCode c) with hi | hi
  · exact h2 c (List.mem_filter.mpr ⟨hc, hi⟩)
  · simpa [hi] using h
set_option maxRecDepth 65536 in
theorem w_c0 : (Jvm.Cond.code x code maxLocals ret).before args0 about1 = true := code_word (m := ⟨1, 1⟩) (meth := k1m1) (c := k1c1) (by decide +kernel) rfl rfl rfl (by decide +kernel)
set_option maxRecDepth 65536 in
theorem w_c1 : (Jvm.Cond.code ({ cls := "com/example/milepost/milepost/status/OverviewOwnsPinLaw", name := "typeOf", desc := "(I)Lcom/example/milepost/milepost/status/StatusType;" } : Jvm.MethodName) method_3_code (1 : Nat) (Option.some (Jvm.ClassFile.FieldType.object "com/example/milepost/milepost/status/StatusType"))).before args0 about1 = true := code_word (m := ⟨1, 2⟩) (meth := k1m2) (c := k1c2) (by decide +kernel) rfl rfl rfl (by decide +kernel)
set_option maxRecDepth 65536 in
theorem w_c2 : (Jvm.Cond.code ({ cls := "com/example/milepost/milepost/status/Overview", name := "owns", desc := "(Lcom/example/milepost/milepost/status/StatusType;)Z" } : Jvm.MethodName) prog_84_method_8_code (2 : Nat) (Option.some Jvm.ClassFile.FieldType.boolean)).before args0 about1 = true := code_word (m := ⟨8, 0⟩) (meth := k8m0) (c := k8c0) (by decide +kernel) rfl rfl rfl (by decide +kernel)
def codes1 : List Jvm.Cond := [Jvm.Cond.code x code maxLocals ret, Jvm.Cond.code ({ cls := "com/example/milepost/milepost/status/OverviewOwnsPinLaw", name := "typeOf", desc := "(I)Lcom/example/milepost/milepost/status/StatusType;" } : Jvm.MethodName) method_3_code (1 : Nat) (Option.some (Jvm.ClassFile.FieldType.object "com/example/milepost/milepost/status/StatusType")), Jvm.Cond.code ({ cls := "com/example/milepost/milepost/status/Overview", name := "owns", desc := "(Lcom/example/milepost/milepost/status/StatusType;)Z" } : Jvm.MethodName) prog_84_method_8_code (2 : Nat) (Option.some Jvm.ClassFile.FieldType.boolean)]
set_option maxRecDepth 65536 in
theorem codes_eq : words1.filter isCode = codes1 := rfl
theorem w_codes : ∀ c ∈ words1.filter isCode, c.before args0 about1 = true := by
  rw [codes_eq]
  intro c hc
  simp only [codes1, List.mem_cons, List.not_mem_nil, or_false] at hc
  rcases hc with rfl | rfl | rfl
  · exact w_c0
  · exact w_c1
  · exact w_c2
set_option maxRecDepth 65536 in
theorem w_t1 : (words1.take 24).all (fun c => isCode c || c.before args0 about1) = true := by decide +kernel
set_option maxRecDepth 65536 in
theorem w_t2 : (words1.drop 24).all (fun c => isCode c || c.before args0 about1) = true := by decide +kernel
theorem w_tables : (allAtoms (Jvm.Cond.code x code maxLocals ret :: tables_1)).before args0 about1 = true := by
  rw [allAtoms_all]
  show words1.all (fun c => c.before args0 about1) = true
  refine all_split ?_ w_codes
  rw [← List.take_append_drop 24 words1, List.all_append, w_t1, w_t2]
  rfl
set_option maxRecDepth 65536 in
theorem w_case : (Jvm.Cond.and given_1 narrow_1).before args0 about1 = true := by decide +kernel
theorem w_applies : (headSpec (Jvm.Cond.code x code maxLocals ret :: tables_1) room_1).applies x e0.platform about1 = true :=
  (Spec.applies_iff w_frames).mpr ⟨w_running, w_runnable, w_alone, w_named, w_hears, w_ripe, w_room, w_tables⟩
theorem atStart : AtStart classFile x code maxLocals ret World_1 tables_1 room_1 Calls_1 rest_1 Pre_1 launch0 p0 e0 about1 theMethod args0 below0 :=
  ⟨lists_1, trivial, launch0.admits_env _ _ _, launch0.least_env, fairChoices_fair.cas, fairChoices_fair.clock, w_frames, w_args, w_heap, w_applies, trivial, trivial, w_case⟩
end start1
theorem witness_1 : WitnessClaimed_1 := ⟨start1.p0, start1.e0, start1.about1, start1.theMethod, start1.args0, start1.below0, start1.atStart⟩
end Jvm.Pilot.@@N@@
